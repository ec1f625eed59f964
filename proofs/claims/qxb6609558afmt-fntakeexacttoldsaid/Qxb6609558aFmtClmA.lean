import Derived.Test.Qxb6609558aFmtCards
import Derived.WalkKit
import Derived.WalkSpells
import Derived.WalkLawsBesides
import Derived.Deep.RegionHeld3
import Derived.Lib.SliceRun
import Derived.MapKept
namespace Go.Proofs.Qxb6609558aFmt.Clm
open Go.RowKit

/-! ### Plain: an association list with keys that are told apart -/
def lk : List (ByteArray × Value) → ByteArray → Option Value
  | [], _ => none
  | (k, v) :: r, s => if s = k then some v else lk r s
def upd : List (ByteArray × Value) → ByteArray → Value → List (ByteArray × Value)
  | [], s, v => [(s, v)]
  | (k, u) :: r, s, v => if s = k then (s, v) :: r else (k, u) :: upd r s v
def del : List (ByteArray × Value) → ByteArray → List (ByteArray × Value)
  | [], _ => []
  | (k, u) :: r, s => if s = k then r else (k, u) :: del r s
def nd : List (ByteArray × Value) → Prop
  | [] => True
  | (k, _) :: r => lk r k = none ∧ nd r

theorem lk_upd (L : List (ByteArray × Value)) (s t : ByteArray) (v : Value) : lk (upd L s v) t = if t = s then some v else lk L t := by
  induction L with
  | nil => simp [upd, lk]
  | cons p r ih =>
    obtain ⟨k, u⟩ := p
    simp only [upd]
    by_cases h : s = k
    · subst h
      rw [if_pos rfl]
      simp only [lk]
      by_cases h2 : t = s <;> simp [h2]
    · rw [if_neg h]
      simp only [lk, ih]
      by_cases h2 : t = k
      · subst h2
        simp [Ne.symm h]
      · simp [h2]
theorem nd_upd (L : List (ByteArray × Value)) (s : ByteArray) (v : Value) (h : nd L) : nd (upd L s v) := by
  induction L with
  | nil => exact ⟨rfl, trivial⟩
  | cons p r ih =>
    obtain ⟨k, u⟩ := p
    simp only [upd]
    by_cases h2 : s = k
    · subst h2
      rw [if_pos rfl]
      exact h
    · rw [if_neg h2]
      refine ⟨?_, ih h.2⟩
      rw [lk_upd, if_neg (Ne.symm h2)]
      exact h.1
theorem lk_del (L : List (ByteArray × Value)) (s t : ByteArray) (h : nd L) : lk (del L s) t = if t = s then none else lk L t := by
  induction L with
  | nil => simp [del, lk]
  | cons p r ih =>
    obtain ⟨k, u⟩ := p
    simp only [del]
    by_cases h2 : s = k
    · subst h2
      rw [if_pos rfl]
      by_cases h3 : t = s
      · subst h3
        rw [if_pos rfl]
        exact h.1
      · simp [lk, h3]
    · rw [if_neg h2]
      simp only [lk, ih h.2]
      by_cases h3 : t = k
      · subst h3
        simp [Ne.symm h2]
      · simp [h3]
theorem nd_del (L : List (ByteArray × Value)) (s : ByteArray) (h : nd L) : nd (del L s) := by
  induction L with
  | nil => trivial
  | cons p r ih =>
    obtain ⟨k, u⟩ := p
    simp only [del]
    by_cases h2 : s = k
    · subst h2
      rw [if_pos rfl]
      exact h.2
    · rw [if_neg h2]
      refine ⟨?_, ih h.2⟩
      rw [lk_del r s k h.2, if_neg (Ne.symm h2)]
      exact h.1
theorem length_upd (L : List (ByteArray × Value)) (s : ByteArray) (v : Value) : (upd L s v).length = L.length + if (lk L s).isSome then 0 else 1 := by
  induction L with
  | nil => simp [upd, lk]
  | cons p r ih =>
    obtain ⟨k, u⟩ := p
    simp only [upd, lk]
    by_cases h : s = k
    · simp [h]
    · simp only [if_neg h, List.length_cons, ih]
      omega
theorem length_del (L : List (ByteArray × Value)) (s : ByteArray) : (del L s).length = L.length - if (lk L s).isSome then 1 else 0 := by
  induction L with
  | nil => simp [del]
  | cons p r ih =>
    obtain ⟨k, u⟩ := p
    simp only [del, lk]
    by_cases h : s = k
    · simp [h]
    · simp only [if_neg h, List.length_cons, ih]
      by_cases h2 : (lk r s).isSome = true
      · have : 0 < r.length := by
          cases r with
          | nil => simp [lk] at h2
          | cons _ _ => simp
        simp [h2]
        omega
      · simp [h2]

/-! ### The model's map -/
def pairs (es : List MapEntry) : List (Value × Value) := es.map fun e => (e.key, e.val)
def asPairs (L : List (ByteArray × Value)) : List (Value × Value) := L.map fun p => (.string p.1, p.2)

/-- Where the key stands. -/
def pos : List (ByteArray × Value) → ByteArray → Nat → Option (Nat × Value)
  | [], _, _ => none
  | (k, v) :: r, s, i => if s = k then some (i, v) else pos r s (i + 1)

theorem findNow_eq (s : ByteArray) : ∀ (es : List MapEntry) (L : List (ByteArray × Value)) (i : Nat), pairs es = asPairs L → Instr.findNow .string (.string s) es i = some (pos L s i)
  | [], [], _, _ => rfl
  | [], _ :: _, _, h => by simp [pairs, asPairs] at h
  | _ :: _, [], _, h => by simp [pairs, asPairs] at h
  | e :: es, (k, v) :: L, i, h => by
    simp only [pairs, asPairs, List.map_cons, List.cons.injEq, Prod.mk.injEq] at h
    obtain ⟨⟨h1, h2⟩, h3⟩ := h
    have ih := findNow_eq s es L (i + 1) h3
    simp only [Instr.findNow, h1, Instr.sameNow, pos]
    by_cases hk : s = k
    · subst hk
      have e1 : (s == s) = true := (MapKept.bytes_beq s s).2 rfl
      rw [e1, h2]
      simp
    · have e1 : (s == k) = false := by
        cases hb : (s == k) with
        | false => rfl
        | true => exact absurd ((MapKept.bytes_beq s k).1 hb) hk
      rw [e1, if_neg hk]
      exact ih

theorem pos_lk (L : List (ByteArray × Value)) (s : ByteArray) (i : Nat) : (pos L s i).map (·.2) = lk L s := by
  induction L generalizing i with
  | nil => rfl
  | cons p r ih =>
    obtain ⟨k, v⟩ := p
    simp only [pos, lk]
    by_cases h : s = k
    · simp [h]
    · simp [h, ih]

/-- Block m of w is a map that holds L. -/
def MapAt (w : World) (m : Nat) (L : List (ByteArray × Value)) : Prop := ∃ es clock, w.heap[m]? = some (.map es clock) ∧ pairs es.toList = asPairs L

theorem run_lookup (w : World) (m : Nat) (L : List (ByteArray × Value)) (s : ByteArray) (h : MapAt w m L) :
    (Instr.lookup 38 (.map (some m)) (.string s) true).run Tryf.prog w = .ok (.tuple #[(lk L s).getD .nilIface, .bool (lk L s).isSome]) w := by
  obtain ⟨es, clock, hb, hp⟩ := h
  have hf := MapKept.run_findKey (P := Tryf.prog) (w := w) (kt := 9) Tryf.underlying9 (findNow_eq s es.toList L 0 hp)
  have hc := MapKept.run_checkKey (P := Tryf.prog) (w := w) (kt := 9) (k := .string s) Tryf.underlying9 trivial es.isEmpty 9999
  have hz : (zeroValue 20).run Tryf.prog w = .ok .nilIface w := by kernel_rfl
  have hl := pos_lk L s 0
  unfold Instr.lookup
  cases hq : pos L s 0 with
  | none =>
    rw [hq] at hl hf
    simp only [Option.map_none] at hl
    simp [run_underlying Tryf.underlying38, MapKept.run_getObj_map hb, hc, hf, hz, ← hl]
  | some x =>
    rw [hq] at hl hf
    simp only [Option.map_some] at hl
    simp [run_underlying Tryf.underlying38, MapKept.run_getObj_map hb, hc, hf, ← hl]

theorem run_len (w : World) (m : Nat) (L : List (ByteArray × Value)) (ty : TypeId) (h : MapAt w m L) :
    (Builtin.len_ #[38] ty #[.map (some m)]).run Tryf.prog w = .ok (goInt L.length) w := by
  obtain ⟨es, clock, hb, hp⟩ := h
  have he : es.size = L.length := by
    have := congrArg List.length hp
    simpa [pairs, asPairs] using this
  simp [Builtin.len_, run_underlying Tryf.underlying38, MapKept.run_getObj_map hb, he]

theorem pos_ge (L : List (ByteArray × Value)) (s : ByteArray) (i j : Nat) (x : Value) (h : j < i) : pos L s i ≠ some (j, x) := by
  induction L generalizing i with
  | nil => simp [pos]
  | cons p r ih =>
    obtain ⟨k, v⟩ := p
    simp only [pos]
    by_cases hk : s = k
    · rw [if_pos hk]
      intro q
      injection q with q
      injection q with q _
      omega
    · rw [if_neg hk]
      exact ih (i + 1) (by omega)

theorem pairs_set (s : ByteArray) (v : Value) : ∀ (es : List MapEntry) (L : List (ByteArray × Value)) (i j : Nat) (x : Value), pairs es = asPairs L → pos L s i = some (i + j, x) →
    es[j]?.map (·.key) = some (.string s) ∧ pairs (es.modify j fun e => { e with key := .string s, val := v }) = asPairs (upd L s v)
  | [], [], _, _, _, _, hq => by simp [pos] at hq
  | [], _ :: _, _, _, _, h, _ => by simp [pairs, asPairs] at h
  | _ :: _, [], _, _, _, h, _ => by simp [pairs, asPairs] at h
  | e :: es, (k, u) :: L, i, j, x, h, hq => by
    simp only [pairs, asPairs, List.map_cons, List.cons.injEq, Prod.mk.injEq] at h
    obtain ⟨⟨h1, h2⟩, h3⟩ := h
    simp only [pos] at hq
    by_cases hk : s = k
    · subst hk
      rw [if_pos rfl] at hq
      simp only [Option.some.injEq, Prod.mk.injEq] at hq
      obtain rfl : j = 0 := by omega
      refine ⟨by simp [h1], ?_⟩
      simp [pairs, asPairs, upd]
      exact h3
    · rw [if_neg hk] at hq
      cases j with
      | zero => exact absurd hq (pos_ge L s (i + 1) i x (by omega))
      | succ j =>
        have ih := pairs_set s v es L (i + 1) j x h3 (by rw [hq]; simp; omega)
        refine ⟨by simpa using ih.1, ?_⟩
        have ih2 := ih.2
        simp only [pairs, asPairs] at ih2 ⊢
        simp [upd, hk, h1, h2, ih2]

theorem pairs_push (s : ByteArray) (v : Value) (c : Nat) : ∀ (es : List MapEntry) (L : List (ByteArray × Value)) (i : Nat), pairs es = asPairs L → pos L s i = none → pairs (es ++ [{ key := .string s, val := v, born := c }]) = asPairs (upd L s v)
  | [], [], _, _, _ => rfl
  | [], _ :: _, _, h, _ => by simp [pairs, asPairs] at h
  | _ :: _, [], _, h, _ => by simp [pairs, asPairs] at h
  | e :: es, (k, u) :: L, i, h, hq => by
    simp only [pairs, asPairs, List.map_cons, List.cons.injEq, Prod.mk.injEq] at h
    obtain ⟨⟨h1, h2⟩, h3⟩ := h
    simp only [pos] at hq
    by_cases hk : s = k
    · rw [if_pos hk] at hq
      cases hq
    · rw [if_neg hk] at hq
      have ih := pairs_push s v c es L (i + 1) h3 hq
      simp only [pairs, asPairs] at ih ⊢
      simp only [upd, if_neg hk, List.cons_append, List.map_cons, h1, h2, ih]

theorem pairs_del (s : ByteArray) : ∀ (es : List MapEntry) (L : List (ByteArray × Value)) (i j : Nat) (x : Value), pairs es = asPairs L → pos L s i = some (i + j, x) → j < es.length ∧ pairs (es.eraseIdx j) = asPairs (del L s)
  | [], [], _, _, _, _, hq => by simp [pos] at hq
  | [], _ :: _, _, _, _, h, _ => by simp [pairs, asPairs] at h
  | _ :: _, [], _, _, _, h, _ => by simp [pairs, asPairs] at h
  | e :: es, (k, u) :: L, i, j, x, h, hq => by
    simp only [pairs, asPairs, List.map_cons, List.cons.injEq, Prod.mk.injEq] at h
    obtain ⟨⟨h1, h2⟩, h3⟩ := h
    simp only [pos] at hq
    by_cases hk : s = k
    · subst hk
      rw [if_pos rfl] at hq
      simp only [Option.some.injEq, Prod.mk.injEq] at hq
      obtain rfl : j = 0 := by omega
      refine ⟨by simp, ?_⟩
      simp [pairs, asPairs, del]
      exact h3
    · rw [if_neg hk] at hq
      cases j with
      | zero => exact absurd hq (pos_ge L s (i + 1) i x (by omega))
      | succ j =>
        have ih := pairs_del s es L (i + 1) j x h3 (by rw [hq]; simp; omega)
        refine ⟨by simpa using ih.1, ?_⟩
        have ih2 := ih.2
        simp only [pairs, asPairs] at ih2 ⊢
        simp [del, hk, h1, h2, ih2]

theorem pairs_keep (s : ByteArray) : ∀ (L : List (ByteArray × Value)) (i : Nat), pos L s i = none → del L s = L
  | [], _, _ => rfl
  | (k, u) :: L, i, hq => by
    simp only [pos] at hq
    by_cases hk : s = k
    · rw [if_pos hk] at hq
      cases hq
    · rw [if_neg hk] at hq
      simp only [del, if_neg hk, pairs_keep s L (i + 1) hq]

theorem set_grown {w : World} {m : Nat} {es : Array MapEntry} {clock : Nat} (hb : w.heap[m]? = some (.map es clock)) (o : Obj) :
    ({ w with heap := w.heap.setIfInBounds m o } : World).heap[m]? = some o ∧ w.grownBy { w with heap := w.heap.setIfInBounds m o } (some m) := by
  have hm : m < w.heap.size := (Array.getElem?_eq_some_iff.1 hb).1
  refine ⟨by simp [hm], rfl, rfl, rfl, by simp, fun k _ hk => ?_⟩
  have : k ≠ m := fun e => hk (by rw [e])
  simp [Ne.symm this]

theorem run_update (w : World) (m : Nat) (L : List (ByteArray × Value)) (s : ByteArray) (v : Value) (h : MapAt w m L) :
    ∃ w', (Instr.mapUpdate 38 (.map (some m)) (.string s) v).run Tryf.prog w = .ok () w' ∧ MapAt w' m (upd L s v) ∧ w.grownBy w' (some m) ∧ w'.heap.size = w.heap.size := by
  obtain ⟨es, clock, hb, hp⟩ := h
  have hf := MapKept.run_findKey (P := Tryf.prog) (w := w) (kt := 9) Tryf.underlying9 (findNow_eq s es.toList L 0 hp)
  have hc := MapKept.run_checkKey (P := Tryf.prog) (w := w) (kt := 9) (k := .string s) Tryf.underlying9 trivial false 9999
  unfold Instr.mapUpdate
  cases hq : pos L s 0 with
  | none =>
    rw [hq] at hf
    obtain ⟨g1, g2⟩ := set_grown hb (.map (es.push { key := .string s, val := v, born := clock }) (clock + 1))
    refine ⟨_, ?_, ⟨_, _, g1, ?_⟩, g2, by simp⟩
    · simp [run_underlying Tryf.underlying38, MapKept.run_getObj_map hb, hc, hf, MapKept.run_setObj_map _ hb]
    · rw [Array.toList_push]
      exact pairs_push s v clock es.toList L 0 hp hq
  | some x =>
    obtain ⟨i, y⟩ := x
    rw [hq] at hf
    obtain ⟨k1, k2⟩ := pairs_set s v es.toList L 0 i y hp (by rw [hq]; simp)
    obtain ⟨g1, g2⟩ := set_grown hb (.map (es.modify i fun e => { e with key := .string s, val := v }) clock)
    have hk : ((es[i]?).map (·.key)).getD (.string s) = .string s := by
      rw [← Array.getElem?_toList, k1]; rfl
    have hst : (Instr.keyThatStays (.string s) (.string s)).run Tryf.prog w = .ok (.string s) w := by
      have : Instr.sameBits 10000 (.string s) (.string s) = true := (MapKept.bytes_beq s s).2 rfl
      simp [Instr.keyThatStays, this]
    refine ⟨_, ?_, ⟨_, _, g1, ?_⟩, g2, by simp⟩
    · simp [run_underlying Tryf.underlying38, MapKept.run_getObj_map hb, hc, hf, hk, hst, MapKept.run_setObj_map _ hb]
    · rw [Array.toList_modify]
      exact k2

theorem run_delete (w : World) (m : Nat) (L : List (ByteArray × Value)) (s : ByteArray) (ty : TypeId) (h : MapAt w m L) :
    ∃ w', (Builtin.delete_ #[38, 9] ty #[.map (some m), .string s]).run Tryf.prog w = .ok (.tuple #[]) w' ∧ MapAt w' m (del L s) ∧ w.grownBy w' (some m) ∧ w'.heap.size = w.heap.size := by
  obtain ⟨es, clock, hb, hp⟩ := h
  have hf := MapKept.run_findKey (P := Tryf.prog) (w := w) (kt := 9) Tryf.underlying9 (findNow_eq s es.toList L 0 hp)
  have hc := MapKept.run_checkKey (P := Tryf.prog) (w := w) (kt := 9) (k := .string s) Tryf.underlying9 trivial es.isEmpty 9999
  unfold Builtin.delete_
  cases hq : pos L s 0 with
  | none =>
    rw [hq] at hf
    obtain ⟨g1, g2⟩ := set_grown hb (.map es clock)
    refine ⟨_, ?_, ⟨_, _, g1, ?_⟩, g2, by simp⟩
    · simp [run_underlying Tryf.underlying38, MapKept.run_getObj_map hb, hc, hf, MapKept.run_setObj_map _ hb]
    · rw [pairs_keep s L 0 hq]
      exact hp
  | some x =>
    obtain ⟨i, y⟩ := x
    rw [hq] at hf
    obtain ⟨k1, k2⟩ := pairs_del s es.toList L 0 i y hp (by rw [hq]; simp)
    obtain ⟨g1, g2⟩ := set_grown hb (.map (es.eraseIdxIfInBounds i) clock)
    refine ⟨_, ?_, ⟨_, _, g1, ?_⟩, g2, by simp⟩
    · simp [run_underlying Tryf.underlying38, MapKept.run_getObj_map hb, hc, hf, MapKept.run_setObj_map _ hb]
    · have hi : i < es.size := by simpa using k1
      simp only [Array.eraseIdxIfInBounds, hi, ↓reduceDIte, Array.toList_eraseIdx]
      exact k2

end Go.Proofs.Qxb6609558aFmt.Clm
