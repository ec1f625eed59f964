import Derived.Test.Qxb6613802aRows
import Derived.WalkKit
import Derived.WalkSpells
import Derived.WalkLawsBesides
import Derived.Deep.RegionHeld3
import Derived.BigRegion
namespace Go.Proofs.Qxb6613802a.Dec
open Go.RowKit

set_option maxHeartbeats 400000 in
theorem decides_le (c0 c1 c2 c3 c4 c5 c6 c7 c8 c9 c10 c11 c12 c13 c14 c15 c16 c17 c18 c19 c21 c22 : Value) (d t : Int) (w : World) (hd : d ≤ 1) :
    Calls Try.prog 19 #[.agg #[c0, c1, c2, c3, c4, c5, c6, c7, c8, c9, c10, c11, c12, c13, c14, c15, c16, c17, c18, c19, .int .i64 d, c21, c22], .int .i64 t] w fun e w' => e = .returned (.bool true) ∧ Below w.heap.size w w' := by
  go_enter Try.func19, Try.ntmps19
  go_wp2

  go_ret
  exact ⟨rfl, (Below.refl _ _).alloc (Nat.le_refl _) _⟩

set_option maxHeartbeats 400000 in
theorem decides_gt (c0 c1 c2 c3 c4 c5 c6 c7 c8 c9 c10 c11 c12 c13 c14 c15 c16 c17 c18 c19 c21 c22 : Value) (d t : Int) (w : World) (hd : 1 < d) :
    Calls Try.prog 19 #[.agg #[c0, c1, c2, c3, c4, c5, c6, c7, c8, c9, c10, c11, c12, c13, c14, c15, c16, c17, c18, c19, .int .i64 d, c21, c22], .int .i64 t] w fun e w' => e = .returned (.bool (t.tmod d == 0)) ∧ Below w.heap.size w w' := by
  have hd' : ¬ d ≤ 1 := by omega
  have hd2 : (d == 0) = false := by simp; omega
  go_enter Try.func19, Try.ntmps19
  go_wp2

  go_ret
  exact ⟨rfl, (Below.refl _ _).alloc (Nat.le_refl _) _⟩

end Go.Proofs.Qxb6613802a.Dec

