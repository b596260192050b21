import Derived.Test.Qxb6609265aFmtFacts
import Derived.WalkKit
import Derived.ProofKit
import Derived.WalkSpells
import Derived.WalkLawsBesides
import Derived.Below
import Derived.Deep.Light
import Derived.OwnWalk
import Derived.Laws.OwnMore
import Derived.Laws.AppendOwnNone
import Derived.Lib.AppendZeros
import Derived.Deep.QuietTactic
import Derived.BigQuiet
import Derived.Deep.RegionWith
import Derived.Deep.CutRange
import Derived.Stop.Texts
namespace Go.Proofs.Qxb6609265aFmt
open Go.ChangeShapes Go.WideShapes Go.ChangeAt Go.RowKit
open Go.Extern.Stop Go.Stop Go.Extern
set_option linter.unusedVariables false

/-- 'fmt.Errorf("%s: %w", n, err)', err of errors.New's make (43) or of fmt.Errorf's (49): a new wrapError, some text, err within. -/
theorem errorf_any (t : TypeId) (ht : t = 43 ∨ t = 49) (n s : ByteArray) (g : Nat) (a : Addr) (w : World) (h0 : w.cell? ⟨g, 0, none⟩ = some (.iface 9 (.string n))) (h1 : w.cell? ⟨g, 1, none⟩ = some (.iface t (.pointer (some a)))) (hs : w.cell? a = some (.string s)) :
    Calls Tryf.prog 15 #[.string ⟨#[37, 115, 58, 32, 37, 119]⟩, .slice (some ⟨g, 0, none⟩) 2 2] w fun e w' => ∃ x : ByteArray, e = .returned (.iface 49 (.pointer (some ⟨w.heap.size, 0, none⟩))) ∧ w' = (w.alloc (.cells #[.string x, .iface t (.pointer (some a))] 77)).drew := by
  rcases ht with rfl | rfl
  · obtain ⟨l, hl⟩ := Tryf.opPlain43
    have hop := hl "fmt.errorf" a s w hs
    go_enter Tryf.func15, Tryf.ntmps15
    clear hl
    go_wp2
    apply rows_value Tryf.nextTurns
    case hr =>
      go_simp
      exact ⟨rfl, rfl⟩
    case h =>
      go_wp2
      go_ret
      exact ⟨_, rfl, rfl⟩
  · obtain ⟨l, hl⟩ := Tryf.opPlain49
    have hop := hl "fmt.errorf" a s w hs
    go_enter Tryf.func15, Tryf.ntmps15
    clear hl
    go_wp2
    apply rows_value Tryf.nextTurns
    case hr =>
      go_simp
      exact ⟨rfl, rfl⟩
    case h =>
      go_wp2
      go_ret
      exact ⟨_, rfl, rfl⟩

theorem hide {p : Prop} (h : p) : Hid p := h
theorem Tryf.info9 : (Tryf.prog.info? 9).map (fun i => (i.zero, i.size, i.bytes)) = some (some (.string ⟨#[]⟩), 1, 16) := by kernel_rfl

/-- A slice of strings: its elements 'ss', all that it leads to below the world's end; a nil one is empty. -/
structure SL (w : World) (a : Option Addr) (n c : Nat) (ss : List ByteArray) : Prop where
  len : ss.length = n
  cells : 0 < n → ∃ b off, a = some ⟨b, off, none⟩ ∧ b < w.heap.size ∧ ∀ i, i < n → w.cell? ⟨b, off + i, none⟩ = some (.string (ss.getD i ByteArray.empty))
  nil : a = none → n = 0 ∧ c = 0

theorem SL.later {w w' : World} {a : Option Addr} {n c : Nat} {ss : List ByteArray} (h : SL w a n c ss) (hb : Below w.heap.size w w') : SL w' a n c ss :=
  ⟨h.len, fun h0 => by
    obtain ⟨b, off, e, hlt, hc⟩ := h.cells h0
    exact ⟨b, off, e, Nat.lt_of_lt_of_le hlt hb.size, fun i hi => (hb.cell (p := ⟨b, off + i, none⟩) hlt).trans (hc i hi)⟩, h.nil⟩

theorem own_SL {w : World} {base n : Nat} {v : Value} {ss : List ByteArray} (h : w.ownsRow base 9 1 v n (ss.map Value.string)) : ∃ a c, v = .slice a n c ∧ SL w a n c ss := by
  have hl : ss.length = n := by simpa using h.1
  have hlt := h.lt
  rcases h.2 with ⟨rfl, h0⟩ | ⟨g, cap, cur, rfl, hb, hg, hn, hm, hs, ht⟩
  · subst h0
    exact ⟨none, 0, rfl, hl, fun h => absurd h (Nat.lt_irrefl _), fun _ => ⟨rfl, rfl⟩⟩
  · refine ⟨_, cap, rfl, hl, fun _ => ⟨g, 0, rfl, (hlt g rfl).2, fun i hi => ?_⟩, fun h => by simp at h⟩
    have e : cur[i]? = (ss.map Value.string)[i]? := by
      rw [← ht, List.getElem?_take, if_pos (by omega)]
      simp
    rw [Nat.zero_add]
    simp [World.cell?, hg, e, hl, hi]

theorem strs_oneCell (ss : List ByteArray) : ∀ u ∈ ss.map Value.string, u.oneCell' = true := by
  intro u hu
  simp at hu
  obtain ⟨s, _, rfl⟩ := hu
  rfl

theorem SL.src {w : World} {ad : Addr} {n c : Nat} {ss : List ByteArray} (h : SL w (some ad) n c ss) : ∀ j u, (ss.map Value.string)[j]? = some u → w.cell? (ad.add j) = some u := by
  intro j u hu
  have hj : j < n := by
    rcases Nat.lt_or_ge j n with h1 | h1
    · exact h1
    · have := h.len
      simp [show ss.length ≤ j by omega] at hu
  obtain ⟨b, off, e, hlt, hc⟩ := h.cells (by omega)
  simp only [Option.some.injEq] at e
  subst e
  rw [add_plain, hc j hj]
  have := h.len
  simp [show j < ss.length by omega] at hu ⊢
  exact hu

/-- 'append(out, x...)', out a row of strings of the call's own, x whatever slice of strings. -/
theorem wpList_append_strs {w : World} {ops : Array Oper} {rest : List Oper} {o : Oper} {a : Act} {Q : Exit → Act → World → Prop} (hgd : o.guard = none) (s x : Operand) (t : TypeId)
    (ho : o.op = .call { callee := .builtin .append, args := #[s, x], argTypes := #[t, t] }) (ht : Tryf.prog.underlying t = some (.slice 9))
    (base : Nat) (v : Value) (n : Nat) (xs : List Value) (hs : a.eval s = v) (hown : w.ownsRow base 9 1 v n xs)
    (ax : Option Addr) (m c : Nat) (ss : List ByteArray) (hx : a.eval x = .slice ax m c) (hsl : SL w ax m c ss) (hbig : n + m ≤ 4294967296) (hbase : base ≤ w.heap.size)
    (h : ∀ v' w', w'.ownsRow base 9 1 v' (n + m) (xs ++ ss.map Value.string) → w.grownBy w' v.ownBlock → wpList Tryf.prog ops Q rest (a.put o.dst v') w') : wpList Tryf.prog ops Q (o :: rest) a w := by
  obtain ⟨i0, hi, hz0, hz1, hz2⟩ := info_parts Tryf.info9
  cases ax with
  | none =>
    obtain ⟨rfl, rfl⟩ := hsl.nil rfl
    have e : ss = [] := List.eq_nil_of_length_eq_zero hsl.len
    subst e
    exact wpList_append_own_none hgd s x t ho base 9 i0 1 ht hi v n xs hs hown hx (h v w (by simpa using hown) (World.grownBy.refl _ _))
  | some ad =>
    exact wpList_append_own w hgd s x t ho base 9 i0 (.string ⟨#[]⟩) 1 16 ht hi hz0 hz1 hz2 rfl (by decide) v n xs hs hown ad m c (ss.map Value.string) hx (by simp [hsl.len]) hsl.src (strs_oneCell ss) (by unfold maxLen; omega) (by omega) hbase (fun v' w' h1 h2 _ => h v' w' h1 h2)

/-- slices.Grow(nil, n). -/
theorem grow_any (n : Nat) (w : World) (hn : n ≤ 4194304) :
    Calls Tryf.prog 16 #[.slice none 0 0, .int .i64 n] w fun e w' => ∃ v, e = .returned v ∧ w'.ownsRow w.heap.size 9 1 v 0 [] ∧ Below w.heap.size w w' := by
  by_cases h0 : n = 0
  · subst h0
    go_enter Tryf.func16, Tryf.ntmps16
    go_wp2
    go_ret
    exact ⟨_, rfl, World.ownsRow_nil _ _ _ _, Below.refl _ _⟩
  · obtain ⟨i0, hi, hz0, hz1, hz2⟩ := info_parts Tryf.info9
    have hpos : (0 : Int) < (n : Int) := by omega
    have happ := Lib.run_append_nil_zeros (P := Tryf.prog) w 34 3 34 9 i0 (.string ⟨#[]⟩) .i64 .i64 Tryf.underlying34 Tryf.underlying3 hi hz0 n (by omega) (by omega) (by omega) (by rw [hz2]; omega)
    have hge := grownCap_ge w n 0 9
    have hle := grownCap_le_maxLen w n 0 9 (by unfold maxLen; omega)
    generalize hcap : grownCap w n 0 9 = cap at happ hge hle
    clear hcap
    go_enter Tryf.func16, Tryf.ntmps16
    go_wp2_with (at_builtin; refine Lib.wpList_append_run _ rfl _ _ _ _ rfl _ _ rfl rfl _ _ happ ?_)
    go_ret
    refine ⟨_, rfl, (World.ownsRow_made w _ cap (Nat.le_refl _) hle ?_).drew, ((Below.refl _ _).alloc (Nat.le_refl _) _).drew⟩
    simp [size_zeroCells]
    omega

set_option maxHeartbeats 800000 in
/-- slices.Concat of two. -/
theorem concat_any (g : Nat) (a1 a2 : Option Addr) (n1 n2 c1 c2 : Nat) (s1 s2 : List ByteArray) (w : World) (hg : g < w.heap.size)
    (h0 : w.cell? ⟨g, 0, none⟩ = some (.slice a1 n1 c1)) (h1 : w.cell? ⟨g, 1, none⟩ = some (.slice a2 n2 c2)) (l1 : SL w a1 n1 c1 s1) (l2 : SL w a2 n2 c2 s2) (b1 : n1 ≤ 2097152) (b2 : n2 ≤ 2097152) :
    Calls Tryf.prog 14 #[.slice (some ⟨g, 0, none⟩) 2 2] w fun e w' => ∃ a c, e = .returned (.slice a (n1 + n2) c) ∧ SL w' a (n1 + n2) c (s1 ++ s2) ∧ Below w.heap.size w w' := by
  have hg1 := fun w => grow_any (n1 + n2) w (by omega)
  simp only [Int.natCast_add] at hg1
  have HG := hide hg1
  clear hg1
  go_enter Tryf.func14, Tryf.ntmps14
  go_wp2
  refine wp_loop_rounds 3 ?_
  rw [rounds_succ]
  go_wp2
  rw [rounds_succ]
  go_wp2
  rw [rounds_succ]
  go_wp2_with fail
  refine (HG.out _).mono ?_
  rintro e w1 ⟨v, rfl, hown, hb1⟩
  have d0 := (hb1.cell (p := ⟨g, 0, none⟩) hg).trans h0
  have d1 := (hb1.cell (p := ⟨g, 1, none⟩) hg).trans h1
  have L1 := hide (l1.later hb1)
  have L2 := hide l2
  clear l1 l2 h0 h1 HG
  have hg1 := hb1.size
  go_wp2
  refine wp_loop_rounds 3 ?_
  rw [rounds_succ]
  go_wp2_with (at_builtin; refine wpList_append_strs rfl (.tmp 31) (.tmp 32) 34 rfl Tryf.underlying34 w.heap.size v 0 [] rfl hown a1 n1 c1 s1 rfl L1.out (by omega) hg1 ?_; intro v2 w2 hown2 hgr2)
  have hb2 : Below w.heap.size w w2 := hb1.grown hgr2 hg1 (fun k hk => (hown.lt k hk).1)
  have e1 := (hb2.cell (p := ⟨g, 1, none⟩) hg).trans ((hb1.cell (p := ⟨g, 1, none⟩) hg).symm.trans d1)
  have hg2 := hb2.size
  have L2' := hide (L2.out.later hb2)
  simp only [Nat.zero_add, List.nil_append] at hown2
  clear d0 d1 hgr2 hown L1 L2
  rw [rounds_succ]
  go_wp2_with (at_builtin; refine wpList_append_strs rfl (.tmp 31) (.tmp 32) 34 rfl Tryf.underlying34 w.heap.size v2 n1 _ rfl hown2 a2 n2 c2 s2 rfl L2'.out (by omega) hg2 ?_; intro v3 w3 hown3 hgr3)
  have hb3 : Below w.heap.size w w3 := hb2.grown hgr3 hg2 (fun k hk => (hown2.lt k hk).1)
  rw [← List.map_append] at hown3
  obtain ⟨a3, c3, rfl, hsl⟩ := own_SL hown3
  have HS := hide hsl
  clear hsl hown3 hgr3 hown2 L2' e1
  rw [rounds_succ]
  go_wp2
  go_ret
  exact ⟨a3, c3, rfl, HS.out, hb3⟩

/-- errors.New -/
theorem new_any (s : ByteArray) (w : World) :
    Calls Tryf.prog 13 #[.string s] w fun e w' => e = .returned (.iface 43 (.pointer (some ⟨w.heap.size, 0, none⟩))) ∧ w' = w.alloc (.cells #[.string s] 45) := by
  go_enter Tryf.func13, Tryf.ntmps13
  go_wp2
  go_ret
  exact ⟨rfl, rfl⟩

theorem assert_no (x : Value) (w : World) : (Instr.typeAssert (.iface 43 x) 33 37 true).run Tryf.prog w = .ok (.tuple #[.pointer none, .bool false]) w := by kernel_rfl
theorem assert_yes (x : Value) (w : World) : (Instr.typeAssert (.iface 37 x) 33 37 true).run Tryf.prog w = .ok (.tuple #[x, .bool true]) w := by kernel_rfl

/-- A keyError at block b: its place, and an error of fmt.Errorf's make. -/
structure KE (w : World) (b : Nat) (a : Option Addr) (n c : Nat) (ss : List ByteArray) : Prop where
  lt : b < w.heap.size
  at_ : w.cell? ⟨b, 0, none⟩ = some (.slice a n c)
  sl : SL w a n c ss
  err : ∃ bw x, bw < w.heap.size ∧ w.cell? ⟨b, 1, none⟩ = some (.iface 49 (.pointer (some ⟨bw, 0, none⟩))) ∧ w.cell? ⟨bw, 0, none⟩ = some (.string x)

set_option maxHeartbeats 800000 in
/-- within, on an error that has no place. -/
theorem within_plain (a : Option Addr) (n c : Nat) (ss : List ByteArray) (nm s : ByteArray) (be : Nat) (w : World) (hl : SL w a n c ss) (hbe : be < w.heap.size) (hs : w.cell? ⟨be, 0, none⟩ = some (.string s)) :
    Calls Tryf.prog 12 #[.slice a n c, .string nm, .iface 43 (.pointer (some ⟨be, 0, none⟩))] w fun e w' => ∃ b, e = .returned (.iface 37 (.pointer (some ⟨b, 0, none⟩))) ∧ KE w' b a n c ss ∧ Below w.heap.size w w' := by
  have HL := hide hl
  clear hl
  have ha := assert_no (.pointer (some ⟨be, 0, none⟩))
  have hb1 : ∀ o, Below w.heap.size w (w.alloc o) := fun o => (Below.refl _ _).alloc (Nat.le_refl _) o
  go_enter Tryf.func12, Tryf.ntmps12
  go_wp2_with fail
  refine (errorf_any 43 (.inl rfl) nm s w.heap.size ⟨be, 0, none⟩ _ (by simp) (by simp) (by rw [(hb1 _).cell (p := ⟨be, 0, none⟩) hbe]; exact hs)).mono ?_
  rintro e w1 ⟨x, rfl, rfl⟩
  go_wp2
  go_ret
  refine ⟨_, rfl, ⟨by simp, by go_simp, HL.out.later ?_, ⟨w.heap.size + 1, x, by simp, by go_simp, by go_simp⟩⟩, ?_⟩
  · exact ((((Below.refl _ _).alloc (Nat.le_refl _) _).alloc (by simp) _).alloc (by simp; omega) _).drew
  · exact ((((Below.refl _ _).alloc (Nat.le_refl _) _).alloc (by simp) _).alloc (by simp; omega) _).drew

set_option maxHeartbeats 1600000 in
/-- within, on a keyError. -/
theorem within_placed (a1 a2 : Option Addr) (n1 n2 c1 c2 : Nat) (s1 s2 : List ByteArray) (nm : ByteArray) (be : Nat) (w : World) (hl : SL w a1 n1 c1 s1) (hk : KE w be a2 n2 c2 s2) (b1 : n1 ≤ 2097152) (b2 : n2 ≤ 2097152) :
    Calls Tryf.prog 12 #[.slice a1 n1 c1, .string nm, .iface 37 (.pointer (some ⟨be, 0, none⟩))] w fun e w' => ∃ b a c, e = .returned (.iface 37 (.pointer (some ⟨b, 0, none⟩))) ∧ KE w' b a (n1 + n2) c (s1 ++ s2) ∧ Below w.heap.size w w' := by
  obtain ⟨hlt, hat, hsl, bw, x, hbw, herr, hx⟩ := hk
  have ha := assert_yes (.pointer (some ⟨be, 0, none⟩))
  have hb1 : ∀ o, Below w.heap.size w (w.alloc o).drew := fun o => ((Below.refl _ _).alloc (Nat.le_refl _) o).drew
  have HC := hide (concat_any w.heap.size a1 a2 n1 n2 c1 c2 s1 s2 (w.alloc (.cells #[.slice a1 n1 c1, .slice a2 n2 c2] 34)).drew (by simp) (by simp) (by simp) (hl.later (hb1 _)) (hsl.later (hb1 _)) b1 b2)
  clear hl hsl
  go_enter Tryf.func12, Tryf.ntmps12
  go_upto_region 4 with fail
  go_cut [7, 2] from 10 (fun s7 s2' wx => ∃ a c, s7 = .slice a (n1 + n2) c ∧ s2' = .iface 49 (.pointer (some ⟨bw, 0, none⟩)) ∧ SL wx a (n1 + n2) c (s1 ++ s2) ∧ Below w.heap.size w wx)
  case first =>
    go_region_with (go_at_call 14; refine HC.out.mono ?_; rintro e w1 ⟨a3, c3, rfl, hs3, hb3⟩; have hb4 := (hb1 _).trans (hb3.mono (by simp)); have d0 := (hb4.cell (p := ⟨be, 0, none⟩) hlt).trans hat; have d1 := (hb4.cell (p := ⟨be, 1, none⟩) hlt).trans herr)
    all_goals
      go_wp2_with fail
      go_meet
      exact ⟨a3, c3, rfl, rfl, hs3, hb4⟩
  case rest =>
    obtain ⟨a3, c3, rfl, rfl, hs3, hb3⟩ := hcut
    rename World => w3
    have hx3 := (hb3.cell (p := ⟨bw, 0, none⟩) hbw).trans hx
    have hbw3 : bw < w3.heap.size := Nat.lt_of_lt_of_le hbw hb3.size
    have hb5 : ∀ o, Below w3.heap.size w3 (w3.alloc o) := fun o => (Below.refl _ _).alloc (Nat.le_refl _) o
    have HS := hide hs3
    clear HC hs3 hat herr hx hb1
    go_wp2_with fail
    refine (errorf_any 49 (.inr rfl) nm x w3.heap.size ⟨bw, 0, none⟩ _ (by simp) (by simp) (by rw [(hb5 _).cell (p := ⟨bw, 0, none⟩) hbw3]; exact hx3)).mono ?_
    rintro e w4 ⟨y, rfl, rfl⟩
    go_wp2
    go_ret
    have hbl := fun o1 o2 o3 => ((((Below.refl w3.heap.size w3).alloc (Nat.le_refl _) o1).alloc (by simp) o2).alloc (by simp; omega) o3).drew
    refine ⟨_, a3, c3, rfl, ⟨by simp, by go_simp, HS.out.later (hbl _ _ _), ⟨w3.heap.size + 1, y, by simp, by go_simp, by go_simp⟩⟩, hb3.trans ((hbl _ _ _).mono hb3.size)⟩

/-- ZZkeyErrorAt, on a keyError. -/
theorem keyAt_any (b : Nat) (a : Option Addr) (n c : Nat) (ss : List ByteArray) (w : World) (hk : KE w b a n c ss) :
    Calls Tryf.prog 11 #[.iface 37 (.pointer (some ⟨b, 0, none⟩))] w fun e w' => e = .returned (.tuple #[.slice a n c, .bool true]) ∧ Below w.heap.size w w' := by
  have hat := hk.at_
  clear hk
  have ha := assert_yes (.pointer (some ⟨b, 0, none⟩))
  go_enter Tryf.func11, Tryf.ntmps11
  go_wp2
  go_ret2
  exact ⟨rfl, Below.refl _ _⟩
end Go.Proofs.Qxb6609265aFmt
