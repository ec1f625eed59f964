import Derived.Test.Qxb6613802aDecD
import Derived.Test.Qxb6613802aDecA
namespace Go.Proofs.Qxb6613802a.Dec
open Go.RowKit

def ldRun (P : Program) (t : TypeId) (p : Value) (w : World) : Result Next := ((do pure (.value (← Instr.loadAt t p))) : Sem Next).run P w
theorem exec_load41 (ρ : Operand → Value) (dst : Option Tmp) (x : Operand) (ty : TypeId) (pos : String) (after : Array Edge) (guard : Option (Nat × Bool)) (w : World) :
    (execOp ρ ⟨dst, .load 41 x, ty, pos, after, guard⟩).run Try.prog w = ldRun Try.prog 41 (ρ x) w := rfl
theorem exec_load35 (ρ : Operand → Value) (dst : Option Tmp) (x : Operand) (ty : TypeId) (pos : String) (after : Array Edge) (guard : Option (Nat × Bool)) (w : World) :
    (execOp ρ ⟨dst, .load 35 x, ty, pos, after, guard⟩).run Try.prog w = ldRun Try.prog 35 (ρ x) w := rfl
theorem info35 : (Try.prog.info? 35).map (·.size) = some 23 := by kernel_rfl
theorem ld41 (n0 n11 n12 n15 n16 n21 n22 d : Int) (x1 x2 x3 x4 x5 x6 x7 x8 x13 x14 x17 x18 x19 : Nat) (a9 a10 : Option Addr) (l9 k9 l10 k10 : Nat) (b : Nat) (w : World) (hr : w.rangeAt b 0 [.int .i64 n0, .float .f64 x1, .float .f64 x2, .float .f64 x3, .float .f64 x4, .float .f64 x5, .float .f64 x6, .float .f64 x7, .float .f64 x8, .slice a9 l9 k9, .slice a10 l10 k10, .int .i64 n11, .int .i64 n12, .float .f64 x13, .float .f64 x14, .int .i64 n15, .int .i64 n16, .float .f64 x17, .float .f64 x18, .float .f64 x19, .int .i64 d, .int .i64 n21, .int .i64 n22]) : ldRun Try.prog 41 (.pointer (some ⟨b, 0, none⟩)) w = .ok (.value (.agg #[.int .i64 n0, .float .f64 x1, .float .f64 x2, .float .f64 x3, .float .f64 x4, .float .f64 x5, .float .f64 x6, .float .f64 x7, .float .f64 x8, .slice a9 l9 k9, .slice a10 l10 k10, .int .i64 n11, .int .i64 n12, .float .f64 x13, .float .f64 x14, .int .i64 n15, .int .i64 n16, .float .f64 x17, .float .f64 x18, .float .f64 x19, .int .i64 d, .int .i64 n21, .int .i64 n22])) w := by
  unfold ldRun
  rw [Sem.run_bind, run_loadAt_mid w b 0 41 [.int .i64 n0, .float .f64 x1, .float .f64 x2, .float .f64 x3, .float .f64 x4, .float .f64 x5, .float .f64 x6, .float .f64 x7, .float .f64 x8, .slice a9 l9 k9, .slice a10 l10 k10, .int .i64 n11, .int .i64 n12, .float .f64 x13, .float .f64 x14, .int .i64 n15, .int .i64 n16, .float .f64 x17, .float .f64 x18, .float .f64 x19, .int .i64 d, .int .i64 n21, .int .i64 n22] _ hr Try.underlying41 rfl info41]
  rfl
theorem ld35 (n0 n11 n12 n15 n16 n21 n22 d : Int) (x1 x2 x3 x4 x5 x6 x7 x8 x13 x14 x17 x18 x19 : Nat) (a9 a10 : Option Addr) (l9 k9 l10 k10 : Nat) (b : Nat) (w : World) (hr : w.rangeAt b 0 [.int .i64 n0, .float .f64 x1, .float .f64 x2, .float .f64 x3, .float .f64 x4, .float .f64 x5, .float .f64 x6, .float .f64 x7, .float .f64 x8, .slice a9 l9 k9, .slice a10 l10 k10, .int .i64 n11, .int .i64 n12, .float .f64 x13, .float .f64 x14, .int .i64 n15, .int .i64 n16, .float .f64 x17, .float .f64 x18, .float .f64 x19, .int .i64 d, .int .i64 n21, .int .i64 n22]) : ldRun Try.prog 35 (.pointer (some ⟨b, 0, none⟩)) w = .ok (.value (.agg #[.int .i64 n0, .float .f64 x1, .float .f64 x2, .float .f64 x3, .float .f64 x4, .float .f64 x5, .float .f64 x6, .float .f64 x7, .float .f64 x8, .slice a9 l9 k9, .slice a10 l10 k10, .int .i64 n11, .int .i64 n12, .float .f64 x13, .float .f64 x14, .int .i64 n15, .int .i64 n16, .float .f64 x17, .float .f64 x18, .float .f64 x19, .int .i64 d, .int .i64 n21, .int .i64 n22])) w := by
  unfold ldRun
  rw [Sem.run_bind, run_loadAt_mid w b 0 35 [.int .i64 n0, .float .f64 x1, .float .f64 x2, .float .f64 x3, .float .f64 x4, .float .f64 x5, .float .f64 x6, .float .f64 x7, .float .f64 x8, .slice a9 l9 k9, .slice a10 l10 k10, .int .i64 n11, .int .i64 n12, .float .f64 x13, .float .f64 x14, .int .i64 n15, .int .i64 n16, .float .f64 x17, .float .f64 x18, .float .f64 x19, .int .i64 d, .int .i64 n21, .int .i64 n22] _ hr Try.underlying35 rfl info35]
  rfl
theorem range_new (n0 n11 n12 n15 n16 n21 n22 d : Int) (x1 x2 x3 x4 x5 x6 x7 x8 x13 x14 x17 x18 x19 : Nat) (a9 a10 : Option Addr) (l9 k9 l10 k10 : Nat) (w : World) (t : TypeId) : (w.alloc (.cells #[.int .i64 n0, .float .f64 x1, .float .f64 x2, .float .f64 x3, .float .f64 x4, .float .f64 x5, .float .f64 x6, .float .f64 x7, .float .f64 x8, .slice a9 l9 k9, .slice a10 l10 k10, .int .i64 n11, .int .i64 n12, .float .f64 x13, .float .f64 x14, .int .i64 n15, .int .i64 n16, .float .f64 x17, .float .f64 x18, .float .f64 x19, .int .i64 d, .int .i64 n21, .int .i64 n22] t)).rangeAt w.heap.size 0 [.int .i64 n0, .float .f64 x1, .float .f64 x2, .float .f64 x3, .float .f64 x4, .float .f64 x5, .float .f64 x6, .float .f64 x7, .float .f64 x8, .slice a9 l9 k9, .slice a10 l10 k10, .int .i64 n11, .int .i64 n12, .float .f64 x13, .float .f64 x14, .int .i64 n15, .int .i64 n16, .float .f64 x17, .float .f64 x18, .float .f64 x19, .int .i64 d, .int .i64 n21, .int .i64 n22] := by
  intro j v hv
  simpa using hv
theorem rangeAt_drew {w : World} {b o : Nat} {cs : List Value} : w.drew.rangeAt b o cs = w.rangeAt b o cs := rfl

attribute [local go_sem ↓] exec_load41 exec_load35
set_option maxHeartbeats 400000 in
theorem zzdec_le (n0 n11 n12 n15 n16 n21 n22 d : Int) (x1 x2 x3 x4 x5 x6 x7 x8 x13 x14 x17 x18 x19 : Nat) (a9 a10 : Option Addr) (l9 k9 l10 k10 : Nat) (t : Int) (w : World) (hd : d ≤ 1) :
    Calls Try.prog 16 #[.agg #[.int .i64 n0, .float .f64 x1, .float .f64 x2, .float .f64 x3, .float .f64 x4, .float .f64 x5, .float .f64 x6, .float .f64 x7, .float .f64 x8, .slice a9 l9 k9, .slice a10 l10 k10, .int .i64 n11, .int .i64 n12, .float .f64 x13, .float .f64 x14, .int .i64 n15, .int .i64 n16, .float .f64 x17, .float .f64 x18, .float .f64 x19, .int .i64 d, .int .i64 n21, .int .i64 n22], .int .i64 t] w fun e w' => e = .returned (.bool true) ∧ Below w.heap.size w w' := by
  have ld := ld41 n0 n11 n12 n15 n16 n21 n22 d x1 x2 x3 x4 x5 x6 x7 x8 x13 x14 x17 x18 x19 a9 a10 l9 k9 l10 k10 w.heap.size _ (range_new n0 n11 n12 n15 n16 n21 n22 d x1 x2 x3 x4 x5 x6 x7 x8 x13 x14 x17 x18 x19 a9 a10 l9 k9 l10 k10 w 41)
  go_enter Try.func16, Try.ntmps16
  go_wp2_with (go_at_call 19; refine (decides_le _ _ _ _ _ _ _ _ _ _ _ _ _ _ _ _ _ _ _ _ _ _ _ _ _ hd).mono ?_; rintro e w' ⟨rfl, hb⟩)
  go_ret
  exact ⟨rfl, ((Below.refl _ _).alloc (Nat.le_refl _) _).trans (hb.mono (by simp))⟩

set_option maxHeartbeats 400000 in
theorem zzdec_gt (n0 n11 n12 n15 n16 n21 n22 d : Int) (x1 x2 x3 x4 x5 x6 x7 x8 x13 x14 x17 x18 x19 : Nat) (a9 a10 : Option Addr) (l9 k9 l10 k10 : Nat) (t : Int) (w : World) (hd : 1 < d) :
    Calls Try.prog 16 #[.agg #[.int .i64 n0, .float .f64 x1, .float .f64 x2, .float .f64 x3, .float .f64 x4, .float .f64 x5, .float .f64 x6, .float .f64 x7, .float .f64 x8, .slice a9 l9 k9, .slice a10 l10 k10, .int .i64 n11, .int .i64 n12, .float .f64 x13, .float .f64 x14, .int .i64 n15, .int .i64 n16, .float .f64 x17, .float .f64 x18, .float .f64 x19, .int .i64 d, .int .i64 n21, .int .i64 n22], .int .i64 t] w fun e w' => e = .returned (.bool (t.tmod d == 0)) ∧ Below w.heap.size w w' := by
  have ld := ld41 n0 n11 n12 n15 n16 n21 n22 d x1 x2 x3 x4 x5 x6 x7 x8 x13 x14 x17 x18 x19 a9 a10 l9 k9 l10 k10 w.heap.size _ (range_new n0 n11 n12 n15 n16 n21 n22 d x1 x2 x3 x4 x5 x6 x7 x8 x13 x14 x17 x18 x19 a9 a10 l9 k9 l10 k10 w 41)
  go_enter Try.func16, Try.ntmps16
  go_wp2_with (go_at_call 19; refine (decides_gt _ _ _ _ _ _ _ _ _ _ _ _ _ _ _ _ _ _ _ _ _ _ _ _ _ hd).mono ?_; rintro e w' ⟨rfl, hb⟩)
  go_ret
  exact ⟨rfl, ((Below.refl _ _).alloc (Nat.le_refl _) _).trans (hb.mono (by simp))⟩

def bytesB (l9 l10 : Nat) : Bool := decide (l9 ≤ 1048576 ∧ l10 ≤ 1048576 ∧ l9 + l10 ≤ 1048576)
theorem bytesB_of {l9 l10 : Nat} {b : Bool} (h : (l9 ≤ 1048576 ∧ l10 ≤ 1048576 ∧ l9 + l10 ≤ 1048576) ↔ b = true) : Ending.returned (.bool b) = .returned (.bool (bytesB l9 l10)) := by
  have : bytesB l9 l10 = b := by unfold bytesB; cases b <;> simp_all
  rw [this]

set_option maxHeartbeats 400000 in
theorem bytes_any (n0 n11 n12 n15 n16 n21 n22 d : Int) (x1 x2 x3 x4 x5 x6 x7 x8 x13 x14 x17 x18 x19 : Nat) (a9 a10 : Option Addr) (l9 k9 l10 k10 : Nat) (k t : Int) (w : World) (hl9 : l9 ≤ maxLen) (hl10 : l10 ≤ maxLen) :
    Calls Try.prog 14 #[.agg #[.int .i64 n0, .float .f64 x1, .float .f64 x2, .float .f64 x3, .float .f64 x4, .float .f64 x5, .float .f64 x6, .float .f64 x7, .float .f64 x8, .slice a9 l9 k9, .slice a10 l10 k10, .int .i64 n11, .int .i64 n12, .float .f64 x13, .float .f64 x14, .int .i64 n15, .int .i64 n16, .float .f64 x17, .float .f64 x18, .float .f64 x19, .int .i64 d, .int .i64 n21, .int .i64 n22], .int .i64 k, .int .i64 t] w fun e w' => e = .returned (.bool (bytesB l9 l10)) ∧ Below w.heap.size w w' := by
  unfold maxLen at hl9 hl10
  by_cases c1 : l9 ≤ 1048576
  · by_cases c2 : l10 ≤ 1048576
    · by_cases c3 : l9 + l10 ≤ 1048576
      · go_enter Try.func14, Try.ntmps14
        go_wp2
        go_ret
        exact ⟨bytesB_of (by simp; omega), (Below.refl _ _).alloc (Nat.le_refl _) _⟩
      · go_enter Try.func14, Try.ntmps14
        go_wp2
        go_ret
        exact ⟨bytesB_of (by simp; omega), (Below.refl _ _).alloc (Nat.le_refl _) _⟩
    · go_enter Try.func14, Try.ntmps14
      go_wp2
      go_ret
      exact ⟨bytesB_of (by simp; omega), (Below.refl _ _).alloc (Nat.le_refl _) _⟩
  · go_enter Try.func14, Try.ntmps14
    go_wp2
    go_ret
    exact ⟨bytesB_of (by simp; omega), (Below.refl _ _).alloc (Nat.le_refl _) _⟩

end Go.Proofs.Qxb6613802a.Dec

