import Derived.Test.Qxb6609279aKey
namespace Go.Proofs.Qxb6609279a
open Go.ChangeShapes Go.WideShapes Go.ChangeAt Go.RowKit Go.Maps
open Go.ChangeMaps (setBlock heap_setBlock_same heap_setBlock_other)
set_option linter.unusedVariables false
set_option maxRecDepth 100000

theorem laidOut : laidOutB Try.prog = true := by kernel_rfl
theorem row74 : (74 : TypeId) < Try.prog.types.size := of_decide_eq_true (by kernel_rfl)
theorem wide74 : (match Try.prog.underlying 74 with | some (.array _ _) | some (.struct _) => true | _ => false) = true := by rw [Try.underlying74]
theorem law74 : Keyed Try.prog 74 := Keyed.of_law (deep_law_laid laidOut (m := 3) (by omega) row74 (by kernel_rfl) wide74)
theorem cells74 : Try.prog.cellsOf 74 = 4 := by kernel_rfl
theorem cells61 : Try.prog.cellsOf 61 = 2 := by kernel_rfl
theorem cells9 : Try.prog.cellsOf 9 = 1 := by kernel_rfl
theorem types3 : ∃ n, Try.prog.types.size + 1 = n + 3 := ⟨Try.prog.types.size - 2, by have h : (74 : Nat) < Try.prog.types.size := row74; omega⟩
theorem kt74 : Try.prog.keyType 74 = true := by kernel_rfl

theorem lits9 (m : Nat) (s : ByteArray) (hs : s.size ≤ maxLen) : Try.prog.keyLits (m + 1) 9 [.string s] = some [.string s.data.toList] := by
  unfold Program.keyLits
  simp only [Try.underlying9]
  exact if_pos hs
theorem lits61 (m : Nat) (b c : ByteArray) (hb : b.size ≤ maxLen) (hc : c.size ≤ maxLen) : Try.prog.keyLits (m + 2) 61 [.string b, .string c] = some [.string b.data.toList, .string c.data.toList] := by
  unfold Program.keyLits
  simp only [Try.underlying61]
  rw [if_pos ⟨by rw [cells61]; rfl, by kernel_rfl⟩]
  simp only [List.mapM_cons, List.mapM_nil, cells9]
  dsimp only [List.drop, List.take]
  rw [lits9 m b hb, lits9 m c hc]
  rfl
/-- A key of four strings can be read. -/
theorem key_reads (a b c d : ByteArray) (ha : a.size ≤ maxLen) (hb : b.size ≤ maxLen) (hc : c.size ≤ maxLen) (hd : d.size ≤ maxLen) : ∃ l, keyOf Try.prog 74 (.agg #[.string a, .string b, .string c, .string d]) = some l := by
  obtain ⟨n, hn⟩ := types3
  rw [keyOf, Try.underlying74]
  dsimp only
  rw [kt74, hn]
  have hf : (Value.agg #[.string a, .string b, .string c, .string d]).formed Try.prog 74 = true := by kernel_rfl
  rw [hf]
  have hk : Try.prog.keyLits (n + 3) 74 (Value.cells (.agg #[.string a, .string b, .string c, .string d])).toList = some [.string a.data.toList, .string b.data.toList, .string c.data.toList, .string d.data.toList] := by
    show Try.prog.keyLits (n + 3) 74 [.string a, .string b, .string c, .string d] = _
    unfold Program.keyLits
    simp only [Try.underlying74]
    rw [if_pos ⟨by rw [cells74]; rfl, by kernel_rfl⟩]
    simp only [List.mapM_cons, List.mapM_nil, cells9, cells61]
    dsimp only [List.drop, List.take]
    rw [lits9 (n + 1) a ha, lits61 n b c hb hc, lits9 (n + 1) d hd]
    rfl
  rw [hk]
  exact ⟨_, rfl⟩

/-- A kept answer. -/
structure Ent where
  kt : ByteArray
  h : ByteArray
  p : ByteArray
  ac : ByteArray
  ex : Int
  us : ByteArray

def ekey (e : Ent) : Value := keyV e.kt e.h e.p e.ac

/-- i is the last place below k at which an entry bears the key. -/
def LastAt (es : List Ent) (k : Nat) (key : Value) (i : Nat) : Prop :=
  i < k ∧ (∃ e, es[i]? = some e ∧ ekey e = key) ∧ ∀ j e, i < j → j < k → es[j]? = some e → ekey e ≠ key
def NoneAt (es : List Ent) (k : Nat) (key : Value) : Prop := ∀ j e, j < k → es[j]? = some e → ekey e ≠ key

/-- What the map holds for an entry. -/
def ValOK (w : World) (bm : Nat) (e : Ent) (v : Value) : Prop :=
  ∃ ba, v = .agg #[.slice (some ⟨ba, 0, none⟩) 1 1, .int .u64 (nsOf e.ex), .int .i64 (secOf e.ex), .pointer none] ∧ ba < w.heap.size ∧ ba ≠ bm ∧
    w.heap[ba]? = some (.cells #[.string NIL, .string NIL, .bool false, .string NIL, .string NIL, .string e.us, .string NIL] 67 (0, 0))

theorem ValOK.kept {w w' : World} {bm : Nat} {e : Ent} {v : Value} (h : ValOK w bm e v) (hg : w.grownBy w' (some bm)) : ValOK w' bm e v := by
  obtain ⟨ba, rfl, hlt, hne, hc⟩ := h
  exact ⟨ba, rfl, Nat.lt_of_lt_of_le hlt hg.size, hne, (hg.block ba hlt (by simp [hne])).trans hc⟩

/-- Block bm is a map that holds, of the first k entries, the last one under each key. -/
def MapOK (w : World) (bm : Nat) (ents : List Ent) (k : Nat) : Prop :=
  ∃ es clock, w.heap[bm]? = some (.map es clock) ∧ (∀ x ∈ es.toList, ∃ l, keyOf Try.prog 74 x.key = some l) ∧ es.toList.Pairwise (fun x y => x.key ≠ y.key) ∧
    (∀ x ∈ es.toList, ∃ i e, LastAt ents k x.key i ∧ ents[i]? = some e ∧ ValOK w bm e x.val) ∧ (∀ i e, i < k → ents[i]? = some e → ∃ x ∈ es.toList, x.key = ekey e)

theorem MapOK.kept {w w' : World} {bm : Nat} {ents : List Ent} {k : Nat} (h : MapOK w bm ents k) (hg : w.grownBy w' none) : MapOK w' bm ents k := by
  obtain ⟨es, clock, hb, hr, hn, hv, hc⟩ := h
  have hg' : w.grownBy w' (some bm) := ⟨hg.os, hg.tape, hg.output, hg.size, fun i hi _ => hg.block i hi (by simp)⟩
  refine ⟨es, clock, (hg.block bm (Array.getElem?_eq_some_iff.1 hb).1 (by simp)).trans hb, hr, hn, fun x hx => ?_, hc⟩
  obtain ⟨i, e, h1, h2, h3⟩ := hv x hx
  exact ⟨i, e, h1, h2, h3.kept hg'⟩

theorem zero72 (w : World) : (zeroValue 72).run Try.prog w = .ok (.agg #[.slice none 0 0, .int .u64 0, .int .i64 0, .pointer none]) w := by kernel_rfl

theorem MapOK.look {w : World} {bm : Nat} {ents : List Ent} {k : Nat} (h : MapOK w bm ents k) (key : Value) (hk : ∃ l, keyOf Try.prog 74 key = some l) :
    ((Instr.lookup 44 (.map (some bm)) key true).run Try.prog w = .ok (.tuple #[.agg #[.slice none 0 0, .int .u64 0, .int .i64 0, .pointer none], .bool false]) w ∧ NoneAt ents k key) ∨
    ∃ i e v, (Instr.lookup 44 (.map (some bm)) key true).run Try.prog w = .ok (.tuple #[v, .bool true]) w ∧ LastAt ents k key i ∧ ents[i]? = some e ∧ ValOK w bm e v := by
  obtain ⟨es, clock, hb, hr, hn, hv, hc⟩ := h
  obtain ⟨l, hl⟩ := hk
  rcases law74.find w hl es.toList hr with ⟨h1, h2⟩ | ⟨j, e0, h1, h2, h3⟩
  · left
    refine ⟨?_, fun i e hi he hkey => ?_⟩
    · simp [Instr.lookup, run_underlying Try.underlying44, MapKept.run_getObj_map hb, law74.check w _ hl, h1, Result.andThen]
    · obtain ⟨x, hx, hxe⟩ := hc i e hi he
      exact h2 x hx (hxe.trans hkey)
  · right
    have hm := List.mem_of_getElem? h2
    obtain ⟨i, e, g1, g2, g3⟩ := hv e0 hm
    refine ⟨i, e, e0.val, ?_, by rw [← h3]; exact g1, g2, g3⟩
    simp [Instr.lookup, run_underlying Try.underlying44, MapKept.run_getObj_map hb, law74.check w _ hl, h1, Result.andThen]

theorem LastAt.step {ents : List Ent} {k i : Nat} {key : Value} (h : LastAt ents k key i) (e : Ent) (he : ents[k]? = some e) (hne : ekey e ≠ key) : LastAt ents (k + 1) key i := by
  obtain ⟨h1, h2, h3⟩ := h
  refine ⟨by omega, h2, fun j f hij hj hf => ?_⟩
  by_cases hjk : j = k
  · subst hjk
    rw [he] at hf
    cases hf
    exact hne
  · exact h3 j f hij (by omega) hf
theorem lastAt_new {ents : List Ent} {k : Nat} (e : Ent) (he : ents[k]? = some e) : LastAt ents (k + 1) (ekey e) k :=
  ⟨by omega, ⟨e, he, rfl⟩, fun j f h1 h2 _ => by omega⟩

theorem MapOK.put {w : World} {bm : Nat} {ents : List Ent} {k : Nat} (h : MapOK w bm ents k) (e : Ent) (he : ents[k]? = some e) (hk : ∃ l, keyOf Try.prog 74 (ekey e) = some l) (v : Value) (hval : ValOK w bm e v) :
    ∃ w', (Instr.mapUpdate 44 (.map (some bm)) (ekey e) v).run Try.prog w = .ok () w' ∧ MapOK w' bm ents (k + 1) ∧ w.grownBy w' (some bm) := by
  obtain ⟨es, clock, hb, hr, hn, hv, hc⟩ := h
  obtain ⟨l, hl⟩ := hk
  have grow : ∀ o, w.grownBy (setBlock w bm o) (some bm) := fun o => ⟨rfl, rfl, rfl, by simp [setBlock], fun i _ hi => heap_setBlock_other hb _ (fun e => hi (by rw [e]))⟩
  rcases law74.find w hl es.toList hr with ⟨h1, h2⟩ | ⟨j, e0, h1, h2, h3⟩
  · refine ⟨setBlock w bm (.map (es.push ⟨ekey e, v, clock⟩) (clock + 1)), ?_, ⟨_, _, heap_setBlock_same hb _, ?_, ?_, ?_, ?_⟩, grow _⟩
    · simp [Instr.mapUpdate, run_underlying Try.underlying44, MapKept.run_getObj_map hb, law74.check w false hl, h1, MapKept.run_setObj_map _ hb, Result.andThen, setBlock]
    · intro x hx
      simp only [Array.toList_push, List.mem_append, List.mem_singleton] at hx
      rcases hx with hx | rfl
      · exact hr x hx
      · exact ⟨l, hl⟩
    · rw [Array.toList_push, List.pairwise_append]
      refine ⟨hn, by simp, fun x hx y hy => ?_⟩
      simp only [List.mem_singleton] at hy
      subst hy
      exact h2 x hx
    · intro x hx
      simp only [Array.toList_push, List.mem_append, List.mem_singleton] at hx
      rcases hx with hx | rfl
      · obtain ⟨i, f, g1, g2, g3⟩ := hv x hx
        exact ⟨i, f, g1.step e he (fun e' => h2 x hx e'.symm), g2, g3.kept (grow _)⟩
      · exact ⟨k, e, lastAt_new e he, he, hval.kept (grow _)⟩
    · intro i f hi hf
      by_cases hik : i = k
      · subst hik
        rw [he] at hf
        cases hf
        exact ⟨⟨ekey e, v, clock⟩, by simp, rfl⟩
      · obtain ⟨x, hx, hxe⟩ := hc i f (by omega) hf
        exact ⟨x, by simp [hx], hxe⟩
  · have hj : j < es.size := by
      have := (List.getElem?_eq_some_iff.1 h2).1
      simpa using this
    have hj0 : es[j]? = some e0 := by simpa using h2
    have hmod : (es.modify j fun x => { x with key := ekey e, val := v }).toList = es.toList.set j { e0 with key := ekey e, val := v } := by
      rw [Array.toList_modify]
      exact ChangeMaps.modify_eq_set _ _ _ _ h2
    have hmem : ∀ x, x ∈ es.toList.set j { e0 with key := ekey e, val := v } → x = { e0 with key := ekey e, val := v } ∨ (x ∈ es.toList ∧ x.key ≠ ekey e) := by
      intro x hx
      obtain ⟨n, hn'⟩ := List.mem_iff_getElem?.1 hx
      rw [List.getElem?_set] at hn'
      by_cases hjn : j = n
      · subst hjn
        rw [if_pos rfl, if_pos (by simpa using hj)] at hn'
        left
        exact (Option.some.inj hn').symm
      · rw [if_neg hjn] at hn'
        right
        refine ⟨List.mem_of_getElem? hn', fun hkey => ?_⟩
        have hp := List.pairwise_iff_getElem.1 hn
        obtain ⟨q1, q2⟩ := List.getElem?_eq_some_iff.1 hn'
        obtain ⟨r1, r2⟩ := List.getElem?_eq_some_iff.1 h2
        rcases Nat.lt_or_gt_of_ne hjn with hlt | hlt
        · exact hp j n r1 q1 hlt (by rw [q2, r2, hkey, h3])
        · exact hp n j q1 r1 hlt (by rw [q2, r2, hkey, h3])
    refine ⟨setBlock w bm (.map (es.modify j fun x => { x with key := ekey e, val := v }) clock), ?_, ⟨_, _, heap_setBlock_same hb _, ?_, ?_, ?_, ?_⟩, grow _⟩
    · simp [Instr.mapUpdate, run_underlying Try.underlying44, MapKept.run_getObj_map hb, law74.check w false hl, h1, hj0, h3, law74.stays w hl, MapKept.run_setObj_map _ hb, Result.andThen, setBlock]
    · intro x hx
      rw [hmod] at hx
      rcases hmem x hx with rfl | ⟨hx, _⟩
      · exact ⟨l, hl⟩
      · exact hr x hx
    · rw [hmod]
      have hset : (es.toList.set j { e0 with key := ekey e, val := v }).map (·.key) = es.toList.map (·.key) := by
        apply List.ext_getElem?
        intro n
        rw [List.getElem?_map, List.getElem?_map, List.getElem?_set]
        by_cases hjn : j = n
        · subst hjn
          rw [if_pos rfl, if_pos (by simpa using hj), h2]
          simp [h3]
        · rw [if_neg hjn]
      have hp2 : (es.toList.map (·.key)).Pairwise (· ≠ ·) := List.pairwise_map.2 hn
      rw [← hset] at hp2
      exact List.pairwise_map.1 hp2
    · intro x hx
      rw [hmod] at hx
      rcases hmem x hx with rfl | ⟨hx, hne⟩
      · exact ⟨k, e, lastAt_new e he, he, hval.kept (grow _)⟩
      · obtain ⟨i, f, g1, g2, g3⟩ := hv x hx
        exact ⟨i, f, g1.step e he (fun e' => hne e'.symm), g2, g3.kept (grow _)⟩
    · intro i f hi hf
      rw [hmod]
      have hnew : ({ e0 with key := ekey e, val := v } : MapEntry) ∈ es.toList.set j { e0 with key := ekey e, val := v } := List.mem_set (by simpa using hj) _
      by_cases hik : i = k
      · subst hik
        rw [he] at hf
        cases hf
        exact ⟨_, hnew, rfl⟩
      · obtain ⟨x, hx, hxe⟩ := hc i f (by omega) hf
        by_cases hke : x.key = ekey e
        · exact ⟨_, hnew, by rw [← hxe, hke]⟩
        · obtain ⟨n, hn'⟩ := List.mem_iff_getElem?.1 hx
          refine ⟨x, List.mem_iff_getElem?.2 ⟨n, ?_⟩, hxe⟩
          rw [List.getElem?_set, if_neg (fun hjn => hke (by subst hjn; rw [h2] at hn'; cases hn'; exact h3))]
          exact hn'
end Go.Proofs.Qxb6609279a
