import Derived.Test.Qxb6609558aFmtExaB
namespace Go.Proofs.Qxb6609558aFmt.Clm
open Go.RowKit Go.Extern.Stop Go.Stop Go.Extern

set_option maxRecDepth 100000 in
set_option maxHeartbeats 2000000 in
theorem exact_out (a1 a2 a3 : Option Addr) (n1 c1 n2 c2 n3 c3 : Nat) (S V : Nat → ByteArray) (s : ByteArray) (req : Bool) (w : World)
    (l1 : n1 ≤ maxLen) (l2 : n2 ≤ maxLen) (l3 : n3 ≤ maxLen) (l4 : s.size ≤ maxLen) (h1 : SR w a1 n1 S) (h2 : SR w a2 n2 V) (hbig : 4096 < n1 ∨ 4096 < n2 ∨ 4096 < n3 ∨ 1048576 < s.size) :
    Calls Tryf.prog 3 #[.slice a1 n1 c1, .slice a2 n2 c2, .slice a3 n3 c3, .string s, .bool req] w fun e w' => e = .returned (.bool true) ∧ w = w' := by
  have HZ : Hid (Calls Tryf.prog 5 #[.slice a1 n1 c1, .slice a2 n2 c2, .slice a3 n3 c3, .string s, .bool req] w fun e w' => SomeBool e ∧ w = w') := zzb5 a1 a2 a3 n1 c1 n2 c2 n3 c3 S V s req w l1 l2 l3 l4 h1 h2
  unfold maxLen at l1 l2 l3 l4
  clear h1 h2
  by_cases k1 : 4096 < n1
  · clear hbig
    go_enter Tryf.func3, Tryf.ntmps3
    go_wp2_with (go_at_call 5; refine HZ.out.mono ?_; rintro e w' ⟨⟨b, rfl⟩, rfl⟩)
    all_goals (go_ret; exact ⟨rfl, rfl⟩)
  · have d1 : decide (4096 < (n1 : Int)) = false := by simp; omega
    by_cases k2 : 4096 < n2
    · clear hbig
      go_enter Tryf.func3, Tryf.ntmps3
      go_wp2_with (go_at_call 5; refine HZ.out.mono ?_; rintro e w' ⟨⟨b, rfl⟩, rfl⟩)
      all_goals (go_ret; exact ⟨rfl, rfl⟩)
    · have d2 : decide (4096 < (n2 : Int)) = false := by simp; omega
      by_cases k3 : 4096 < n3
      · clear hbig
        go_enter Tryf.func3, Tryf.ntmps3
        go_wp2_with (go_at_call 5; refine HZ.out.mono ?_; rintro e w' ⟨⟨b, rfl⟩, rfl⟩)
        all_goals (go_ret; exact ⟨rfl, rfl⟩)
      · have d3 : decide (4096 < (n3 : Int)) = false := by simp; omega
        have k4 : 1048576 < s.size := by omega
        clear hbig
        go_enter Tryf.func3, Tryf.ntmps3
        go_wp2_with (go_at_call 5; refine HZ.out.mono ?_; rintro e w' ⟨⟨b, rfl⟩, rfl⟩)
        all_goals (go_ret; exact ⟨rfl, rfl⟩)

end Go.Proofs.Qxb6609558aFmt.Clm
