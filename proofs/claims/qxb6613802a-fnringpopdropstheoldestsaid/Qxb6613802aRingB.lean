import Derived.Test.Qxb6613802aRingA
namespace Go.Proofs.Qxb6613802a.Ring
open Go.RowKit

set_option maxHeartbeats 400000 in
theorem f3_huge (a : Option Addr) (len cap : Nat) (head n k : Int) (w : World) (h : 1048576 < len) (hm : len ≤ maxLen) :
    Calls Try.prog 3 #[.slice a len cap, .int .i64 head, .int .i64 n, .int .i64 k] w fun e w' => e = .returned (.bool true) ∧ w = w' := by
  go_enter Try.func3, Try.ntmps3
  go_wp2_with (go_at_call 5; refine (bytes_gt _ _ _ _ _ _ _ h hm).mono ?_; rintro e w' ⟨rfl, rfl⟩)
  go_ret
  exact ⟨rfl, rfl⟩

set_option maxHeartbeats 400000 in
theorem f3_big (a : Option Addr) (len cap : Nat) (head n k : Int) (w : World) (h : len ≤ 1048576) (h2 : 131072 < len) :
    Calls Try.prog 3 #[.slice a len cap, .int .i64 head, .int .i64 n, .int .i64 k] w fun e w' => e = .returned (.bool true) ∧ w = w' := by
  go_enter Try.func3, Try.ntmps3
  go_wp2_with (go_at_call 5; refine (bytes_le _ _ _ _ _ _ _ h).mono ?_; rintro e w' ⟨rfl, rfl⟩)
  go_ret
  exact ⟨rfl, rfl⟩

set_option maxHeartbeats 1000000 in
theorem f3_out (a : Option Addr) (len cap : Nat) (head n k : Int) (w : World) (h : len ≤ 131072) (h2 : len = 0 ∨ head < 0 ∨ (len : Int) ≤ head ∨ n < 0 ∨ (len : Int) < n ∨ k < 0 ∨ n < k) :
    Calls Try.prog 3 #[.slice a len cap, .int .i64 head, .int .i64 n, .int .i64 k] w fun e w' => e = .returned (.bool true) ∧ w = w' := by
  go_enter Try.func3, Try.ntmps3
  go_wp2_with (go_at_call 5; refine (bytes_le _ _ _ _ _ _ _ (by omega)).mono ?_; rintro e w' ⟨rfl, rfl⟩)
  all_goals first | (go_ret; exact ⟨rfl, rfl⟩) | (exfalso; omega)

end Go.Proofs.Qxb6613802a.Ring
