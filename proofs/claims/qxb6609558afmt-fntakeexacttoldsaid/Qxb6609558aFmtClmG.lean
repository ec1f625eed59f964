import Derived.Test.Qxb6609558aFmtClmF
import Derived.Laws.CopyOwn
namespace Go.Proofs.Qxb6609558aFmt.Clm
open Go.RowKit Go.Extern.Stop Go.Stop Go.Extern

def rowL (f : Nat → Value) (n : Nat) : List Value := (List.range n).map f
theorem rowL_length (f : Nat → Value) (n : Nat) : (rowL f n).length = n := by simp [rowL]
theorem rowL_get (f : Nat → Value) (n j : Nat) (v : Value) (h : (rowL f n)[j]? = some v) : j < n ∧ v = f j := by
  have hj : j < n := by
    have := (List.getElem?_eq_some_iff.1 h).1
    rwa [rowL_length] at this
  refine ⟨hj, ?_⟩
  simp [rowL, hj] at h
  exact h.symm

theorem copy_gen (T E : TypeId) (z : Value) (hu : Tryf.prog.underlying T = some (.slice E)) (hsz : (Tryf.prog.info? E).map (·.size) = some 1) (x : Addr) (len cap : Nat) (f : Nat → Value) (hf : ∀ j, (f j).oneCell' = true) (w : World)
    (hc : ∀ j, j < len → w.cell? (x.add j) = some (f j)) (hx : 0 < len → x.block < w.heap.size) :
    ∃ W2, (Builtin.copy_ #[T, T] 3 #[.slice (some ⟨w.heap.size, 0, none⟩) len len, .slice (some x) len cap]).run Tryf.prog (w.alloc (.cells (madeCells #[z] len) E)) = .ok (goInt len) W2 ∧ (∀ j, j < len → W2.cell? ⟨w.heap.size, j, none⟩ = some (f j)) ∧ Below w.heap.size w W2 ∧ w.heap.size < W2.heap.size := by
  have hbel : Below w.heap.size w (w.alloc (.cells (madeCells #[z] len) E)) := (Below.refl _ _).alloc (Nat.le_refl _) _
  by_cases h0 : len = 0
  · subst h0
    exact ⟨_, run_copy_none (P := Tryf.prog) _ T T 3 E _ _ 0 0 0 cap hu hsz rfl, fun j hj => absurd hj (by omega), hbel, by simp⟩
  · have hg : (w.alloc (.cells (madeCells #[z] len) E)).heap[w.heap.size]? = some (.cells (madeCells #[z] len) E (0, 0)) := heap_alloc_new w _
    have hsrc : ∀ j v, (rowL f len)[j]? = some v → (w.alloc (.cells (madeCells #[z] len) E)).cell? (x.add j) = some v := by
      intro j v hv
      obtain ⟨hj, rfl⟩ := rowL_get f len j v hv
      have hb : (x.add j).block = x.block := by unfold Addr.add; split <;> rfl
      rw [World.cell?_alloc_lt _ _ _ (by rw [hb]; exact hx (by omega))]
      exact hc j hj
    have hone : ∀ v ∈ rowL f len, v.oneCell' = true := by
      intro v hv
      simp [rowL] at hv
      obtain ⟨j, _, rfl⟩ := hv
      exact hf j
    have hrun := run_copy_row (P := Tryf.prog) (w.alloc (.cells (madeCells #[z] len) E)) T T 3 E w.heap.size 0 len len x len cap (madeCells #[z] len) E (rowL f len) hu hsz hg
      (by rw [rowL_length]; exact (Nat.min_self _).symm) hsrc (by rw [rowL_length, size_madeCells]; omega) hone
    rw [rowL_length] at hrun
    refine ⟨_, hrun, ?_, below_setRow hbel (Nat.le_refl _) _, ?_⟩
    · have hcp : ((w.alloc (.cells (madeCells #[z] len) E)).setRow w.heap.size ((madeCells #[z] len).toList.take 0 ++ rowL f len ++ (madeCells #[z] len).toList.drop (0 + len)).toArray).heap[w.heap.size]? = some (.cells (rowL f len).toArray E (0, 0)) := by
        have e : (madeCells #[z] len).toList.drop (0 + len) = [] := by
          apply List.drop_eq_nil_of_le
          simp [size_madeCells]
        rw [e]
        simpa using setRow_heap (w.alloc (.cells (madeCells #[z] len) E)) w.heap.size _ _ E _ hg
      intro j hj
      simp only [World.cell?, hcp]
      simp [rowL, hj]
    · simp [World.setRow]

theorem info9 : (Tryf.prog.info? 9).map (fun i => (i.zero, i.size, i.bytes)) = some (some (.string ⟨#[]⟩), 1, 16) := by kernel_rfl
theorem info4 : (Tryf.prog.info? 4).map (fun i => (i.zero, i.size, i.bytes)) = some (some (.bool false), 1, 1) := by kernel_rfl
theorem make_str (w : World) (n : Nat) (hn : n ≤ 4096) :
    (Instr.makeSlice 22 (.int .i64 (n : Int)) (.int .i64 (n : Int))).run Tryf.prog w = .ok (.slice (some ⟨w.heap.size, 0, none⟩) n n) (w.alloc (.cells (madeCells #[.string ⟨#[]⟩] n) 9)) := by
  obtain ⟨i, hi, hz, h1, h2⟩ := info_parts info9
  have := run_make (P := Tryf.prog) w 22 9 i _ Tryf.underlying22 hi hz .i64 .i64 n n (by omega) (by omega) (by rw [h2]; omega) (by omega)
  simpa [h1, Value.cells] using this
theorem make_bool (w : World) (n : Nat) (hn : n ≤ 4096) :
    (Instr.makeSlice 23 (.int .i64 (n : Int)) (.int .i64 (n : Int))).run Tryf.prog w = .ok (.slice (some ⟨w.heap.size, 0, none⟩) n n) (w.alloc (.cells (madeCells #[.bool false] n) 4)) := by
  obtain ⟨i, hi, hz, h1, h2⟩ := info_parts info4
  have := run_make (P := Tryf.prog) w 23 4 i _ Tryf.underlying23 hi hz .i64 .i64 n n (by omega) (by omega) (by rw [h2]; omega) (by omega)
  simpa [h1, Value.cells] using this
theorem q22 (w : World) (a : Option Addr) (n c n' c' : Nat) : (binOp .neq 22 (.slice a n c) (.slice none n' c')).run Tryf.prog w = .ok (.bool a.isSome) w := by
  have := run_neq_slice_nil_any w 22 9 a n c n' c' Tryf.underlying22
  simpa using this
theorem q23 (w : World) (a : Option Addr) (n c n' c' : Nat) : (binOp .neq 23 (.slice a n c) (.slice none n' c')).run Tryf.prog w = .ok (.bool a.isSome) w := by
  have := run_neq_slice_nil_any w 23 4 a n c n' c' Tryf.underlying23
  simpa using this

theorem copy_str (x : Addr) (n c : Nat) (S : Nat → ByteArray) (w : World) (h : SR w (some x) n S) :
    ∃ W2, (Builtin.copy_ #[22, 22] 3 #[.slice (some ⟨w.heap.size, 0, none⟩) n n, .slice (some x) n c]).run Tryf.prog (w.alloc (.cells (madeCells #[.string ⟨#[]⟩] n) 9)) = .ok (goInt n) W2 ∧ SR W2 (some ⟨w.heap.size, 0, none⟩) n S ∧ Below w.heap.size w W2 := by
  have hc : ∀ j, j < n → w.cell? (x.add j) = some (.string (S j)) := by
    intro j hj
    obtain ⟨b, off, e, l, hc⟩ := h.resolve_left (by omega)
    injection e with e
    subst e
    rw [Go.WideShapes.add_plain]
    exact hc j hj
  have hx : 0 < n → x.block < w.heap.size := by
    intro hp
    obtain ⟨b, off, e, l, hc⟩ := h.resolve_left (by omega)
    injection e with e
    subst e
    exact l
  obtain ⟨W2, h1, h2, h3, h4⟩ := copy_gen 22 9 (.string ⟨#[]⟩) Tryf.underlying22 (by kernel_rfl) x n c (fun j => .string (S j)) (fun _ => rfl) w hc hx
  refine ⟨W2, h1, ?_, h3⟩
  exact .inr ⟨w.heap.size, 0, rfl, h4, fun j hj => by rw [Nat.zero_add]; exact h2 j hj⟩
theorem copy_bool (x : Addr) (n c : Nat) (S : Nat → Bool) (w : World) (h : BR w (some x) n S) :
    ∃ W2, (Builtin.copy_ #[23, 23] 3 #[.slice (some ⟨w.heap.size, 0, none⟩) n n, .slice (some x) n c]).run Tryf.prog (w.alloc (.cells (madeCells #[.bool false] n) 4)) = .ok (goInt n) W2 ∧ BR W2 (some ⟨w.heap.size, 0, none⟩) n S ∧ Below w.heap.size w W2 := by
  have hc : ∀ j, j < n → w.cell? (x.add j) = some (.bool (S j)) := by
    intro j hj
    obtain ⟨b, off, e, l, hc⟩ := h.resolve_left (by omega)
    injection e with e
    subst e
    rw [Go.WideShapes.add_plain]
    exact hc j hj
  have hx : 0 < n → x.block < w.heap.size := by
    intro hp
    obtain ⟨b, off, e, l, hc⟩ := h.resolve_left (by omega)
    injection e with e
    subst e
    exact l
  obtain ⟨W2, h1, h2, h3, h4⟩ := copy_gen 23 4 (.bool false) Tryf.underlying23 (by kernel_rfl) x n c (fun j => .bool (S j)) (fun _ => rfl) w hc hx
  refine ⟨W2, h1, ?_, h3⟩
  exact .inr ⟨w.heap.size, 0, rfl, h4, fun j hj => by rw [Nat.zero_add]; exact h2 j hj⟩

theorem zztake' (F : Interp) (r m : Nat) (L : List (ByteArray × Value)) (fb req : Bool) (s : ByteArray) (w : World) (hF : F.answers w.tape) (hr : RdrAt w r m fb) (hm : MapAt w m L) (hne : m < r) (hh : HeldAll L) :
    Calls Tryf.prog 13 #[.pointer (some ⟨r, 0, none⟩), .string s, .bool req] w fun e w' => e = .returned (.tuple #[.string (ansT L s), .bool (ansN L s), .bool (ansOk L s)]) ∧
      RdrAt w' r m (fb || (!ansOk L s && req)) ∧ MapAt w' m (del L s) ∧ Below m w w' ∧ w.heap.size ≤ w'.heap.size := zztake F r m L fb req s w hF hr hm hne hh
theorem zztake_opt (F : Interp) (r m : Nat) (L : List (ByteArray × Value)) (fb : Bool) (s : ByteArray) (w : World) (hF : F.answers w.tape) (hr : RdrAt w r m fb) (hm : MapAt w m L) (hne : m < r) (hh : HeldAll L) :
    Calls Tryf.prog 13 #[.pointer (some ⟨r, 0, none⟩), .string s, .bool false] w fun e w' => e = .returned (.tuple #[.string (ansT L s), .bool (ansN L s), .bool (ansOk L s)]) ∧
      RdrAt w' r m fb ∧ MapAt w' m (del L s) ∧ Below m w w' ∧ w.heap.size ≤ w'.heap.size := by
  have := zztake' F r m L fb false s w hF hr hm hne hh
  simpa using this
theorem zztake_failed (F : Interp) (r m : Nat) (L : List (ByteArray × Value)) (req : Bool) (s : ByteArray) (w : World) (hF : F.answers w.tape) (hr : RdrAt w r m true) (hm : MapAt w m L) (hne : m < r) (hh : HeldAll L) :
    Calls Tryf.prog 13 #[.pointer (some ⟨r, 0, none⟩), .string s, .bool req] w fun e w' => e = .returned (.tuple #[.string (ansT L s), .bool (ansN L s), .bool (ansOk L s)]) ∧
      RdrAt w' r m true ∧ MapAt w' m (del L s) ∧ Below m w w' ∧ w.heap.size ≤ w'.heap.size := by
  have := zztake' F r m L true req s w hF hr hm hne hh
  simpa using this
theorem zztake_gone (F : Interp) (r m : Nat) (L : List (ByteArray × Value)) (fb : Bool) (s : ByteArray) (w : World) (hF : F.answers w.tape) (hr : RdrAt w r m fb) (hm : MapAt w m L) (hne : m < r) (hh : HeldAll L) (hg : lk L s = none) :
    Calls Tryf.prog 13 #[.pointer (some ⟨r, 0, none⟩), .string s, .bool true] w fun e w' => e = .returned (.tuple #[.string ⟨#[]⟩, .bool false, .bool false]) ∧
      RdrAt w' r m true ∧ MapAt w' m (del L s) ∧ Below m w w' ∧ w.heap.size ≤ w'.heap.size := by
  have e1 : ansT L s = ⟨#[]⟩ := by unfold ansT; rw [hg]; rfl
  have e2 : ansN L s = false := by unfold ansN; rw [hg]; rfl
  have e3 : ansOk L s = false := by unfold ansOk; rw [hg]; rfl
  have := zztake' F r m L fb true s w hF hr hm hne hh
  rw [e1, e2, e3] at this
  simpa using this

end Go.Proofs.Qxb6609558aFmt.Clm
