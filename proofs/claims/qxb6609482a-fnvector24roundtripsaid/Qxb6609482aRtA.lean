import Derived.Test.Qxb6609482aExA
namespace Go.Proofs.Qxb6609482a.Vec
open Go.RowKit

/-- The bytes as laid out: the length's three bytes, the payload, the rest. -/
def laid (n : Nat) (P R : Nat → Nat) (j : Nat) : Nat :=
  if j = 0 then n / 65536 else if j = 1 then n / 256 % 256 else if j = 2 then n % 256 else if j < 3 + n then P (j - 3) else R (j - 3 - n)

theorem be_laid (n : Nat) (P R : Nat → Nat) : be (laid n P R) 3 = n := by
  rw [be3]
  simp only [laid]
  simp
  omega
theorem laid_lt (n : Nat) (P R : Nat → Nat) (hn : n ≤ 65536) (hP : ∀ j, P j < 256) (hR : ∀ j, R j < 256) (j : Nat) : laid n P R j < 256 := by
  unfold laid
  split
  · omega
  split
  · omega
  split
  · omega
  split
  · exact hP _
  · exact hR _
theorem cellsOf_succ (F : Nat → Nat) (k : Nat) : cellsOf F (k + 1) = cellsOf F k ++ [.int .u8 (F k : Int)] := by
  simp [cellsOf, List.range_succ]

theorem row_of_owns {w : World} {base B L : Nat} {F : Nat → Nat} (h : w.ownsRow base 5 1 (.slice (some ⟨B, 0, none⟩) L L) L (cellsOf F L)) : RowB w B L F := by
  intro j hj
  rw [h.cellAt j (by omega)]
  simp [cellsOf, hj]

theorem cells_new (w : World) (l : List Value) (t : TypeId) (j : Nat) (u : Value) (h : l[j]? = some u) : (w.alloc (.cells l.toArray t)).cell? ((⟨w.heap.size, 0, none⟩ : Addr).add j) = some u := by
  have e : (⟨w.heap.size, 0, none⟩ : Addr).add j = ⟨w.heap.size, j, none⟩ := by unfold Addr.add; split <;> simp_all
  rw [e]
  simpa using h

set_option maxHeartbeats 400000 in
theorem bytes5 (a1 a2 : Option Addr) (n c1 m c2 : Nat) (w : World) (h1 : n ≤ maxLen) (h2 : m ≤ maxLen) :
    Calls Try.prog 5 #[.slice a1 n c1, .slice a2 m c2] w fun e w' => (∃ b, e = .returned (.bool b)) ∧ w = w' := by
  unfold maxLen at h1 h2
  by_cases g1 : n ≤ 1048576
  · by_cases g2 : m ≤ 1048576
    · by_cases g3 : n + m ≤ 1048576
      all_goals
        go_enter Try.func5, Try.ntmps5
        go_wp2
        go_ret
        exact ⟨⟨_, rfl⟩, rfl⟩
    · go_enter Try.func5, Try.ntmps5
      go_wp2
      go_ret
      exact ⟨⟨_, rfl⟩, rfl⟩
  · go_enter Try.func5, Try.ntmps5
    go_wp2
    go_ret
    exact ⟨⟨_, rfl⟩, rfl⟩

set_option maxHeartbeats 400000 in
theorem bytes5_le (a1 a2 : Option Addr) (n c1 m c2 : Nat) (w : World) (h1 : n ≤ 65536) (h2 : m ≤ 65536) :
    Calls Try.prog 5 #[.slice a1 n c1, .slice a2 m c2] w fun e w' => e = .returned (.bool true) ∧ w = w' := by
  go_enter Try.func5, Try.ntmps5
  go_wp2
  go_ret
  exact ⟨rfl, rfl⟩

set_option maxHeartbeats 400000 in
theorem rt_big (a1 a2 : Option Addr) (n c1 m c2 : Nat) (w : World) (h1 : n ≤ maxLen) (h2 : m ≤ maxLen) (h : 65536 < n ∨ 65536 < m) :
    Calls Try.prog 3 #[.slice a1 n c1, .slice a2 m c2] w fun e w' => e = .returned (.bool true) ∧ w = w' := by
  have g1 := h1
  have g2 := h2
  unfold maxLen at g1 g2
  by_cases k1 : 65536 < n
  · go_enter Try.func3, Try.ntmps3
    go_wp2_with (go_at_call 5; refine (bytes5 _ _ _ _ _ _ _ h1 h2).mono ?_; rintro e w' ⟨⟨b, rfl⟩, rfl⟩)
    all_goals (go_ret; exact ⟨rfl, rfl⟩)
  · have k2 : 65536 < m := by omega
    go_enter Try.func3, Try.ntmps3
    go_wp2_with (go_at_call 5; refine (bytes5 _ _ _ _ _ _ _ h1 h2).mono ?_; rintro e w' ⟨⟨b, rfl⟩, rfl⟩)
    all_goals (go_ret; exact ⟨rfl, rfl⟩)

theorem head3 (n : Nat) (P R : Nat → Nat) : ([.int .u8 ((n : Int) / 65536), .int .u8 ((n : Int) / 256 % 256), .int .u8 ((n : Int) % 256)] : List Value) = cellsOf (laid n P R) 3 := by
  simp [cellsOf, laid, List.range_succ]

end Go.Proofs.Qxb6609482a.Vec
