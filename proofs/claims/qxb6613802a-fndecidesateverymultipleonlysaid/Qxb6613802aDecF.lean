import Derived.Test.Qxb6613802aDecE
namespace Go.Proofs.Qxb6613802a.Dec
open Go.RowKit

attribute [local go_sem ↓] exec_load41 exec_load35 exec_store41

theorem range_below {w w' : World} {b : Nat} {cs : List Value} (h : w.rangeAt b 0 cs) (hb : Below w.heap.size w w') (hlt : b < w.heap.size) : w'.rangeAt b 0 cs :=
  fun j v hv => (hb.cell (by exact hlt)).trans (h j v hv)
theorem range_cell {w : World} {b : Nat} {cs : List Value} (h : w.rangeAt b 0 cs) (j : Nat) (v : Value) (hv : cs[j]? = some v) : w.cell? ⟨b, j, none⟩ = some v := by
  have := h j v hv
  simpa using this

/-- What the walk knows of the boxed parameter in a world. -/
theorem box_facts (n0 n11 n12 n15 n16 n21 n22 d : Int) (x1 x2 x3 x4 x5 x6 x7 x8 x13 x14 x17 x18 x19 : Nat) (a9 a10 : Option Addr) (l9 k9 l10 k10 : Nat) (w W : World) (h : W.rangeAt w.heap.size 0 [.int .i64 n0, .float .f64 x1, .float .f64 x2, .float .f64 x3, .float .f64 x4, .float .f64 x5, .float .f64 x6, .float .f64 x7, .float .f64 x8, .slice a9 l9 k9, .slice a10 l10 k10, .int .i64 n11, .int .i64 n12, .float .f64 x13, .float .f64 x14, .int .i64 n15, .int .i64 n16, .float .f64 x17, .float .f64 x18, .float .f64 x19, .int .i64 d, .int .i64 n21, .int .i64 n22]) :
    ldRun Try.prog 35 (.pointer (some ⟨w.heap.size, 0, none⟩)) W = .ok (.value (.agg #[.int .i64 n0, .float .f64 x1, .float .f64 x2, .float .f64 x3, .float .f64 x4, .float .f64 x5, .float .f64 x6, .float .f64 x7, .float .f64 x8, .slice a9 l9 k9, .slice a10 l10 k10, .int .i64 n11, .int .i64 n12, .float .f64 x13, .float .f64 x14, .int .i64 n15, .int .i64 n16, .float .f64 x17, .float .f64 x18, .float .f64 x19, .int .i64 d, .int .i64 n21, .int .i64 n22])) W ∧ W.cell? ⟨w.heap.size, 9, none⟩ = some (.slice a9 l9 k9) ∧ W.cell? ⟨w.heap.size, 10, none⟩ = some (.slice a10 l10 k10) ∧ W.cell? ⟨w.heap.size, 20, none⟩ = some (.int .i64 d) :=
  ⟨ld35 n0 n11 n12 n15 n16 n21 n22 d x1 x2 x3 x4 x5 x6 x7 x8 x13 x14 x17 x18 x19 a9 a10 l9 k9 l10 k10 _ _ h, range_cell h 9 _ rfl, range_cell h 10 _ rfl, range_cell h 20 _ rfl⟩

set_option maxHeartbeats 1000000 in
theorem f4_small (n0 n11 n12 n15 n16 n21 n22 d : Int) (x1 x2 x3 x4 x5 x6 x7 x8 x13 x14 x17 x18 x19 : Nat) (a9 a10 : Option Addr) (l9 k9 l10 k10 : Nat) (k t : Int) (w : World) (hl9 : l9 ≤ maxLen) (hl10 : l10 ≤ maxLen) (hB : bytesB l9 l10 = false) :
    Calls Try.prog 4 #[.agg #[.int .i64 n0, .float .f64 x1, .float .f64 x2, .float .f64 x3, .float .f64 x4, .float .f64 x5, .float .f64 x6, .float .f64 x7, .float .f64 x8, .slice a9 l9 k9, .slice a10 l10 k10, .int .i64 n11, .int .i64 n12, .float .f64 x13, .float .f64 x14, .int .i64 n15, .int .i64 n16, .float .f64 x17, .float .f64 x18, .float .f64 x19, .int .i64 d, .int .i64 n21, .int .i64 n22], .int .i64 k, .int .i64 t] w fun e w' => e = .returned (.bool true) ∧ Below w.heap.size w w' := by
  obtain ⟨ld, c9, c10, c20⟩ := box_facts n0 n11 n12 n15 n16 n21 n22 d x1 x2 x3 x4 x5 x6 x7 x8 x13 x14 x17 x18 x19 a9 a10 l9 k9 l10 k10 w _ (range_new n0 n11 n12 n15 n16 n21 n22 d x1 x2 x3 x4 x5 x6 x7 x8 x13 x14 x17 x18 x19 a9 a10 l9 k9 l10 k10 w 35)
  go_enter Try.func4, Try.ntmps4
  go_wp2_with (go_at_call 14; refine (bytes_any _ _ _ _ _ _ _ _ _ _ _ _ _ _ _ _ _ _ _ _ _ _ _ _ _ _ _ _ _ _ hl9 hl10).mono ?_; rintro e w' ⟨rfl, hb⟩)
  go_ret
  exact ⟨rfl, ((Below.refl _ _).alloc (Nat.le_refl _) _).trans (hb.mono (by simp))⟩

set_option maxHeartbeats 1000000 in
theorem f4_big (n0 n11 n12 n15 n16 n21 n22 d : Int) (x1 x2 x3 x4 x5 x6 x7 x8 x13 x14 x17 x18 x19 : Nat) (a9 a10 : Option Addr) (l9 k9 l10 k10 : Nat) (k t : Int) (w : World) (hl9 : l9 ≤ maxLen) (hl10 : l10 ≤ maxLen) (hB : bytesB l9 l10 = true) (hc : 16384 < l9 ∨ 16384 < l10) :
    Calls Try.prog 4 #[.agg #[.int .i64 n0, .float .f64 x1, .float .f64 x2, .float .f64 x3, .float .f64 x4, .float .f64 x5, .float .f64 x6, .float .f64 x7, .float .f64 x8, .slice a9 l9 k9, .slice a10 l10 k10, .int .i64 n11, .int .i64 n12, .float .f64 x13, .float .f64 x14, .int .i64 n15, .int .i64 n16, .float .f64 x17, .float .f64 x18, .float .f64 x19, .int .i64 d, .int .i64 n21, .int .i64 n22], .int .i64 k, .int .i64 t] w fun e w' => e = .returned (.bool true) ∧ Below w.heap.size w w' := by
  obtain ⟨ld, c9, c10, c20⟩ := box_facts n0 n11 n12 n15 n16 n21 n22 d x1 x2 x3 x4 x5 x6 x7 x8 x13 x14 x17 x18 x19 a9 a10 l9 k9 l10 k10 w _ (range_new n0 n11 n12 n15 n16 n21 n22 d x1 x2 x3 x4 x5 x6 x7 x8 x13 x14 x17 x18 x19 a9 a10 l9 k9 l10 k10 w 35)
  have hm9 := hl9
  have hm10 := hl10
  unfold maxLen at hm9 hm10
  by_cases h9 : 16384 < l9
  · go_enter Try.func4, Try.ntmps4
    go_wp2_with (go_at_call 14; refine (bytes_any _ _ _ _ _ _ _ _ _ _ _ _ _ _ _ _ _ _ _ _ _ _ _ _ _ _ _ _ _ _ hl9 hl10).mono ?_; rintro e w' ⟨rfl, hb⟩; have e9 := (hb.cell (p := ⟨w.heap.size, 9, none⟩) (by simp)).trans c9; have e10 := (hb.cell (p := ⟨w.heap.size, 10, none⟩) (by simp)).trans c10)
    go_ret
    exact ⟨rfl, ((Below.refl _ _).alloc (Nat.le_refl _) _).trans (hb.mono (by simp))⟩
  · have h10 : 16384 < l10 := by omega
    go_enter Try.func4, Try.ntmps4
    go_wp2_with (go_at_call 14; refine (bytes_any _ _ _ _ _ _ _ _ _ _ _ _ _ _ _ _ _ _ _ _ _ _ _ _ _ _ _ _ _ _ hl9 hl10).mono ?_; rintro e w' ⟨rfl, hb⟩; have e9 := (hb.cell (p := ⟨w.heap.size, 9, none⟩) (by simp)).trans c9; have e10 := (hb.cell (p := ⟨w.heap.size, 10, none⟩) (by simp)).trans c10)
    go_ret
    exact ⟨rfl, ((Below.refl _ _).alloc (Nat.le_refl _) _).trans (hb.mono (by simp))⟩

end Go.Proofs.Qxb6613802a.Dec

