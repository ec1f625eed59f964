import Derived.Test.Qxb6609482aVecB
namespace Go.Proofs.Qxb6609482a.Vec
open Go.RowKit

theorem vec24 (r : Nat) (p : Addr) (Q : World → Prop) (w : World) (h : Hid (Calls Try.prog 15 #[.pointer (some ⟨r, 0, none⟩), .int .i64 3] w fun e w' => e = .returned (.pointer (some p)) ∧ Q w')) :
    Calls Try.prog 14 #[.pointer (some ⟨r, 0, none⟩)] w fun e w' => e = .returned (.pointer (some p)) ∧ Q w' := by
  go_enter Try.func14, Try.ntmps14
  go_wp2_with (go_at_call 15; refine h.out.mono ?_; rintro e w1 ⟨rfl, hq⟩)
  go_ret
  exact ⟨rfl, hq⟩

theorem zzvec24 (r : Nat) (p : Addr) (Q : World → Prop) (w : World) (h : Hid (Calls Try.prog 15 #[.pointer (some ⟨r, 0, none⟩), .int .i64 3] w fun e w' => e = .returned (.pointer (some p)) ∧ Q w')) :
    Calls Try.prog 7 #[.pointer (some ⟨r, 0, none⟩)] w fun e w' => e = .returned (.pointer (some p)) ∧ Q w' := by
  go_enter Try.func7, Try.ntmps7
  go_wp2_with (go_at_call 14; refine (vec24 r p Q w h).mono ?_; rintro e w1 ⟨rfl, hq⟩)
  go_ret
  exact ⟨rfl, hq⟩

set_option maxHeartbeats 400000 in
theorem newReader (a : Option Addr) (len cap : Nat) (fl : Bool) (w : World) :
    Calls Try.prog 6 #[.slice a len cap, .bool fl] w fun e w' => e = .returned (.pointer (some ⟨w.heap.size + 1, 0, none⟩)) ∧ RdAt w' (w.heap.size + 1) w.heap.size (.slice a len cap) fl ∧ Below w.heap.size w w' ∧ w'.heap.size = w.heap.size + 2 := by
  go_enter Try.func6, Try.ntmps6
  go_wp2
  go_ret
  refine ⟨rfl, ⟨?_, ?_, ?_, ?_, ?_⟩, ((Below.refl _ _).alloc (Nat.le_refl _) _).alloc (by simp) _, by simp⟩
  · have e : w.heap.size + 1 = (w.alloc (.cells #[.bool fl] 4)).heap.size := by simp
    rw [e]; simp
  · have e : w.heap.size + 1 = (w.alloc (.cells #[.bool fl] 4)).heap.size := by simp
    rw [e]; simp
  · rw [World.cell?_alloc_lt _ _ _ (by simp)]; simp
  · have e : w.heap.size + 1 = (w.alloc (.cells #[.bool fl] 4)).heap.size := by simp
    rw [e]; simp
  · rw [World.frozen?_alloc_old _ _ _ (by simp)]; simp

theorem rdBuf (r f : Nat) (v : Value) (fl : Bool) (w : World) (hr : RdAt w r f v fl) :
    Calls Try.prog 8 #[.pointer (some ⟨r, 0, none⟩)] w fun e w' => e = .returned v ∧ w = w' := by
  obtain ⟨h0, h1, h2, f0, f1⟩ := hr
  go_enter Try.func8, Try.ntmps8
  go_wp2
  go_ret
  exact ⟨rfl, rfl⟩
theorem rdFailed (r f : Nat) (v : Value) (fl : Bool) (w : World) (hr : RdAt w r f v fl) :
    Calls Try.prog 9 #[.pointer (some ⟨r, 0, none⟩)] w fun e w' => e = .returned (.bool fl) ∧ w = w' := by
  obtain ⟨h0, h1, h2, f0, f1⟩ := hr
  go_enter Try.func9, Try.ntmps9
  go_wp2
  go_ret
  exact ⟨rfl, rfl⟩
theorem rdFlag (r f : Nat) (v : Value) (fl : Bool) (w : World) (hr : RdAt w r f v fl) :
    Calls Try.prog 10 #[.pointer (some ⟨r, 0, none⟩)] w fun e w' => e = .returned (.pointer (some ⟨f, 0, none⟩)) ∧ w = w' := by
  obtain ⟨h0, h1, h2, f0, f1⟩ := hr
  go_enter Try.func10, Try.ntmps10
  go_wp2
  go_ret
  exact ⟨rfl, rfl⟩

/-- Two slices of n bytes each hold the same. -/
def Same (w : World) (a1 a2 : Option Addr) (n : Nat) : Prop :=
  n = 0 ∨ ∃ (b1 o1 b2 o2 : Nat) (V : Nat → Int), a1 = some ⟨b1, o1, none⟩ ∧ a2 = some ⟨b2, o2, none⟩ ∧ b1 < w.heap.size ∧ b2 < w.heap.size ∧
    ∀ j, j < n → w.cell? ⟨b1, o1 + j, none⟩ = some (.int .u8 (V j)) ∧ w.cell? ⟨b2, o2 + j, none⟩ = some (.int .u8 (V j))

set_option maxHeartbeats 400000 in
theorem same_none (a1 a2 : Option Addr) (c1 c2 : Nat) (w : World) :
    Calls Try.prog 11 #[.slice a1 0 c1, .slice a2 0 c2] w fun e w' => e = .returned (.bool true) ∧ Below w.heap.size w w' := by
  go_enter Try.func11, Try.ntmps11
  go_wp2
  refine wp_loop_rounds 1 ?_
  rw [rounds_succ]
  go_wp2
  go_ret
  exact ⟨rfl, Below.refl _ _⟩

set_option maxHeartbeats 1000000 in
theorem same_some (b1 o1 b2 o2 n c1 c2 : Nat) (V : Nat → Int) (w : World) (hn : n ≤ maxLen) (hb1 : b1 < w.heap.size) (hb2 : b2 < w.heap.size)
    (hc : Hid (∀ j, j < n → w.cell? ⟨b1, o1 + j, none⟩ = some (.int .u8 (V j)) ∧ w.cell? ⟨b2, o2 + j, none⟩ = some (.int .u8 (V j)))) :
    Calls Try.prog 11 #[.slice (some ⟨b1, o1, none⟩) n c1, .slice (some ⟨b2, o2, none⟩) n c2] w fun e w' => e = .returned (.bool true) ∧ Below w.heap.size w w' := by
  unfold maxLen at hn
  go_enter Try.func11, Try.ntmps11
  go_wp2
  go_loopw [5] (fun i wr => ∃ k : Nat, k ≤ n ∧ i = .int .i64 k ∧ Below w.heap.size w wr) (fun i _ => n - (intOf i).toNat)
  case atStart => exact ⟨0, Nat.zero_le _, rfl, Below.refl _ _⟩
  case round =>
    obtain ⟨k, hk, rfl, hbel⟩ := hrel
    by_cases hlt : k < n
    · obtain ⟨g1, g2⟩ := hc.out k hlt
      have d1 : wr.cell? ⟨b1, o1 + k, none⟩ = some (.int .u8 (V k)) := (hbel.cell (by exact hb1)).trans g1
      have d2 : wr.cell? ⟨b2, o2 + k, none⟩ = some (.int .u8 (V k)) := (hbel.cell (by exact hb2)).trans g2
      clear g1 g2
      generalize V k = x at *
      have i1 : (k : Int) < (n : Int) := by omega
      go_wp2
      go_region
      all_goals go_wp2
      go_roundw
      case rel => exact ⟨k + 1, by omega, by go_num, hbel.drew⟩
      case measure => simp [intOf]; omega
    · go_wp2
      go_ret
      exact ⟨rfl, hbel⟩

theorem same_any (a1 a2 : Option Addr) (n c1 c2 : Nat) (w : World) (hn : n ≤ maxLen) (h : Same w a1 a2 n) :
    Calls Try.prog 11 #[.slice a1 n c1, .slice a2 n c2] w fun e w' => e = .returned (.bool true) ∧ Below w.heap.size w w' := by
  rcases h with rfl | ⟨b1, o1, b2, o2, V, rfl, rfl, hb1, hb2, hc⟩
  · exact same_none a1 a2 c1 c2 w
  · exact same_some b1 o1 b2 o2 n c1 c2 V w hn hb1 hb2 hc

theorem q22 (w : World) (a : Option Addr) (n c n' c' : Nat) : (binOp .eql 22 (.slice a n c) (.slice none n' c')).run Try.prog w = .ok (.bool a.isNone) w :=
  Lib.run_eql_slice_nil w 22 5 a n c n' c' Try.underlying22

set_option maxHeartbeats 400000 in
theorem sameBytes (a1 a2 : Addr) (n c1 c2 : Nat) (w : World) (hn : n ≤ maxLen) (h : Same w (some a1) (some a2) n) :
    Calls Try.prog 13 #[.slice (some a1) n c1, .slice (some a2) n c2] w fun e w' => e = .returned (.bool true) ∧ Below w.heap.size w w' := by
  have q := q22
  go_enter Try.func13, Try.ntmps13
  go_wp2_with (go_at_call 11; refine (same_any (some a1) (some a2) n c1 c2 w hn h).mono ?_; rintro e w' ⟨rfl, hb⟩)
  go_ret
  exact ⟨rfl, hb⟩

end Go.Proofs.Qxb6609482a.Vec
