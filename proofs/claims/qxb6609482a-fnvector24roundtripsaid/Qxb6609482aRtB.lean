import Derived.Test.Qxb6609482aRtA
import Derived.Test.Qxb6609482aExB
namespace Go.Proofs.Qxb6609482a.Vec
open Go.RowKit

/-- What the walk is told of a slice of bytes that came in. -/
def Came (w : World) (a : Option Addr) (n : Nat) (F : Nat → Nat) : Prop :=
  n = 0 ∨ ∃ b off, a = some ⟨b, off, none⟩ ∧ b < w.heap.size ∧ ∀ j, j < n → w.cell? ⟨b, off + j, none⟩ = some (.int .u8 (F j : Int))

/-- The slice that is filled: k of its L bytes are there. -/
def Filled (w : World) (B L k : Nat) (F : Nat → Nat) : Prop := w.ownsRow B 5 1 (.slice (some ⟨B, 0, none⟩) k L) k (cellsOf F k)

theorem laid_mid (n : Nat) (P R : Nat → Nat) (k : Nat) (hk : k < n) : laid n P R (3 + k) = P k := by
  unfold laid
  rw [if_neg (by omega), if_neg (by omega), if_neg (by omega), if_pos (by omega)]
  congr 1
  omega
theorem laid_end (n : Nat) (P R : Nat → Nat) (k : Nat) : laid n P R (3 + n + k) = R k := by
  unfold laid
  rw [if_neg (by omega), if_neg (by omega), if_neg (by omega), if_neg (by omega)]
  congr 1
  omega
theorem fill_step {w : World} {B L k : Nat} {F : Nat → Nat} (_ : Filled w B L k F) (x : Nat) (hx : F k = x) (w' : World) (h : w'.ownsRow B 5 1 (.slice (some ⟨B, 0, none⟩) (k + 1) L) (k + 1) (cellsOf F k ++ [.int .u8 (x : Int)])) : Filled w' B L (k + 1) F := by
  unfold Filled
  rw [cellsOf_succ, hx]
  exact h

theorem Came.below {w w' : World} {a : Option Addr} {n : Nat} {F : Nat → Nat} (h : Came w a n F) (hb : Below w.heap.size w w') : Came w' a n F := by
  rcases h with h | ⟨b, off, e, l, hc⟩
  · exact .inl h
  · exact .inr ⟨b, off, e, Nat.lt_of_lt_of_le l hb.size, fun j hj => (hb.cell (by exact l)).trans (hc j hj)⟩
theorem same_of {w : World} {B L n s : Nat} {F G : Nat → Nat} {x a2 : Option Addr} (hrow : RowB w B L F) (hB : B < w.heap.size) (hs : s + n ≤ L) (hx : 0 < n → x = some ⟨B, s, none⟩) (hc : Came w a2 n G) (hFG : ∀ j, j < n → F (s + j) = G j) : Same w x a2 n := by
  rcases hc with h | ⟨b, off, rfl, l, hc⟩
  · exact .inl h
  by_cases h0 : n = 0
  · exact .inl h0
  refine .inr ⟨B, s, b, off, fun j => (G j : Int), hx (by omega), rfl, hB, l, fun j hj => ⟨?_, hc j hj⟩⟩
  rw [hrow (s + j) (by omega), hFG j hj]
theorem cut_two (B k q : Nat) (hp : 0 < q) : cutA (cutA (some ⟨B, 0, none⟩) (3 + k + q) 3) (k + q) k = some ⟨B, 3 + k, none⟩ := by
  by_cases hz : k = 0
  · subst hz
    simp [cutA, Addr.add, show q ≠ 0 by omega]
  · simp [cutA, Addr.add, show 3 + k + q ≠ 3 by omega, show q ≠ 0 by omega, hz]

set_option maxHeartbeats 1000000 in
theorem rt_in (a1 a2 : Option Addr) (n c1 m c2 : Nat) (P R : Nat → Nat) (w : World) (h1 : n ≤ 65536) (h2 : m ≤ 65536) (hP : ∀ j, P j < 256) (hR : ∀ j, R j < 256) (cP : Came w a1 n P) (cR : Came w a2 m R) :
    Calls Try.prog 3 #[.slice a1 n c1, .slice a2 m c2] w fun e w' => e = .returned (.bool true) ∧ Below w.heap.size w w' := by
  obtain ⟨i0, hi, hz0, hz1, hz2⟩ := info_parts info5
  have HP : Hid ((∀ j, P j < 256) ∧ ∀ j, R j < 256) := ⟨hP, hR⟩
  clear hP hR
  have HC : Hid (Came w a1 n P ∧ Came w a2 m R) := ⟨cP, cR⟩
  clear cP cR
  have hd1 : decide (65536 < (n : Int)) = false := by simp; omega
  have hd2 : decide (65536 < (m : Int)) = false := by simp; omega
  go_enter Try.func3, Try.ntmps3
  go_wp2_with (first | (go_at_call 5; refine (bytes5_le _ _ _ _ _ _ _ h1 h2).mono ?_; rintro e w' ⟨rfl, rfl⟩) | (at_make; refine wpList_make_own _ rfl _ _ 22 rfl w.heap.size 5 i0 _ 1 Try.underlying22 hi hz0 hz1 .i64 .i64 _ (3 + n + m) rfl rfl (by omega) (by rw [hz2]; omega) (by unfold maxLen; omega) (Nat.le_refl _) ?_; intro w1 hown1 hg1) | (at_builtin; refine wpList_append_fits _ rfl (.tmp 33) (.tmp 42) 22 rfl w.heap.size 5 i0 1 Try.underlying22 hi hz1 w.heap.size 0 (3 + n + m) [] rfl (hown1.alloc _) ⟨w1.heap.size, 0, none⟩ 3 3 [.int .u8 ((n : Int) / 65536), .int .u8 ((n : Int) / 256 % 256), .int .u8 ((n : Int) % 256)] rfl rfl (cells_new w1 _ 5) (by simp [Value.oneCell']) (by omega) ?_; intro w2 hown2 hg2))
  have st : Filled w2 w.heap.size (3 + n + m) 3 (laid n P R) := by
    have := hown2
    rw [head3 n P R] at this
    exact this
  have b2 : Below w.heap.size w w2 := ((((Below.refl _ _).grown hg1 (Nat.le_refl _) (by simp)).alloc (hg1.size) _).grown hg2 (by have := hg1.size; simp; omega) (by simp))
  clear hown1 hown2 hg1 hg2
  go_loopw [6, 7] (fun v i wr => ∃ k : Nat, k ≤ n ∧ i = .int .i64 k ∧ v = .slice (some ⟨w.heap.size, 0, none⟩) (3 + k) (3 + n + m) ∧ Filled wr w.heap.size (3 + n + m) (3 + k) (laid n P R) ∧ Below w.heap.size w wr) (fun _ i _ => n - (intOf i).toNat)
  case atStart => exact ⟨0, Nat.zero_le _, rfl, rfl, st, b2⟩
  case round =>
    obtain ⟨k, hk, rfl, rfl, hfil, hbel⟩ := hrel
    by_cases hlt : k < n
    · obtain ⟨b, off, rfl, hbl, hc⟩ := HC.out.1.resolve_left (by omega)
      have c1 : wr.cell? ⟨b, off + k, none⟩ = some (.int .u8 (P k : Int)) := (hbel.cell (by exact hbl)).trans (hc k hlt)
      clear hc
      have HL : Hid (laid n P R (3 + k) = P k) := laid_mid n P R k hlt
      go_wp2_with (at_builtin; refine wpList_append_fits _ rfl (.tmp 49) (.tmp 54) 22 rfl w.heap.size 5 i0 1 Try.underlying22 hi hz1 w.heap.size (3 + k) (3 + n + m) _ rfl (World.ownsRow.alloc hfil _) ⟨wr.heap.size, 0, none⟩ 1 1 [.int .u8 (P k : Int)] rfl rfl (cells_new wr _ 5) (by simp [Value.oneCell']) (by omega) ?_; intro w3 hown3 hg3)
      go_roundw
      case rel => exact ⟨k + 1, by omega, by go_num, rfl, fill_step hfil (P k) HL.out w3 hown3, (hbel.alloc hbel.size _).grown hg3 (by have := hbel.size; simp; omega) (by simp)⟩
      case measure => simp [intOf]; omega
    · have hk' : k = n := by omega
      subst hk'
      go_wp2_with fail
      go_loopw [6, 8] (fun v i wr => ∃ q : Nat, q ≤ m ∧ i = .int .i64 q ∧ v = .slice (some ⟨w.heap.size, 0, none⟩) (3 + k + q) (3 + k + m) ∧ Filled wr w.heap.size (3 + k + m) (3 + k + q) (laid k P R) ∧ Below w.heap.size w wr) (fun _ i _ => m - (intOf i).toNat)
      case atStart => exact ⟨0, Nat.zero_le _, rfl, rfl, hfil, hbel⟩
      case round =>
        clear hfil hbel
        obtain ⟨q, hq, rfl, rfl, hfil, hbel⟩ := hrel
        by_cases hlt : q < m
        · obtain ⟨b, off, rfl, hbl, hc⟩ := HC.out.2.resolve_left (by omega)
          have c1 : wr.cell? ⟨b, off + q, none⟩ = some (.int .u8 (R q : Int)) := (hbel.cell (by exact hbl)).trans (hc q hlt)
          clear hc
          have HL : Hid (laid k P R (3 + k + q) = R q) := laid_end k P R q
          go_wp2_with (at_builtin; refine wpList_append_fits _ rfl (.tmp 62) (.tmp 67) 22 rfl w.heap.size 5 i0 1 Try.underlying22 hi hz1 w.heap.size (3 + k + q) (3 + k + m) _ rfl (World.ownsRow.alloc hfil _) ⟨wr.heap.size, 0, none⟩ 1 1 [.int .u8 (R q : Int)] rfl rfl (cells_new wr _ 5) (by simp [Value.oneCell']) (by omega) ?_; intro w3 hown3 hg3)
          go_roundw
          case rel => exact ⟨q + 1, by omega, by go_num, rfl, fill_step hfil (R q) HL.out w3 hown3, (hbel.alloc hbel.size _).grown hg3 (by have := hbel.size; simp; omega) (by simp)⟩
          case measure => simp [intOf]; omega
        · have hq' : q = m := by omega
          subst hq'
          have row : RowB wr w.heap.size (3 + k + q) (laid k P R) := row_of_owns hfil
          have hBw : w.heap.size < wr.heap.size := World.block_lt_of_cell? wr ⟨w.heap.size, 0, none⟩ (row 0 (by omega))
          clear hfil
          go_wp2_with fail
          refine (newReader _ _ _ _ _).mono ?_
          rintro e w3 ⟨rfl, hr3, hb3, hs3⟩
          have HS3 : Hid (w3.heap.size = wr.heap.size + 2) := hs3
          clear hs3
          go_wp2_with fail
          have row3 : RowB w3 w.heap.size (3 + k + q) (laid k P R) := row.below hb3 hBw
          refine (zzvec24 (wr.heap.size + 1) ⟨w3.heap.size, 0, none⟩ _ w3 (vec_ok (wr.heap.size + 1) wr.heap.size w.heap.size (3 + k + q) (laid k P R) w3 hr3 (by omega) hBw (by have := HS3.out; omega) (by omega) (fun j hj => row3 j (by omega)) (laid_lt k P R h1 HP.out.1 HP.out.2) (by rw [be_laid]; omega))).mono ?_
          rintro e w4 ⟨rfl, hr4, hc4, hb4, hs4⟩
          have row4 : RowB w4 w.heap.size (3 + k + q) (laid k P R) := row3.below hb4 hBw
          have z4 : Below w.heap.size w w4 := hbel.trans ((hb3.mono (by omega)).trans (hb4.mono (by omega)))
          have hB4 : w.heap.size < w4.heap.size := by have := hb3.size; omega
          rw [be_laid] at hr4 hc4
          rw [show 3 + k + q - 3 = k + q by omega, show k + q - k = q by omega] at hr4
          have S1 : Hid (Same w4 (cutA (some ⟨w.heap.size, 0, none⟩) (3 + k + q) 3) a1 k) := same_of (s := 3) row4 hB4 (by omega) (fun hp => by simp [cutA, Addr.add, show 3 + k + q ≠ 3 by omega]) (HC.out.1.below z4) (fun j hj => laid_mid k P R j hj)
          have S2 : Hid (Same w4 (cutA (cutA (some ⟨w.heap.size, 0, none⟩) (3 + k + q) 3) (k + q) k) a2 q) := same_of (s := 3 + k) row4 hB4 (by omega) (cut_two w.heap.size k q) (HC.out.2.below z4) (fun j hj => laid_end k P R j)
          generalize cutA (cutA (some ⟨w.heap.size, 0, none⟩) (3 + k + q) 3) (k + q) k = A2 at *
          generalize cutA (some ⟨w.heap.size, 0, none⟩) (3 + k + q) 3 = A1 at *
          clear hr3 row row3 row4 hb3 hb4 hbel
          have pe := ptr_eq
          go_wp2_with (first | (go_at_call 8; refine (rdBuf _ _ _ _ _ (by assumption)).mono ?_; rintro e w' ⟨rfl, rfl⟩) | (go_at_call 9; refine (rdFailed _ _ _ _ _ (by assumption)).mono ?_; rintro e w' ⟨rfl, rfl⟩) | (go_at_call 10; refine (rdFlag _ _ _ _ _ (by assumption)).mono ?_; rintro e w' ⟨rfl, rfl⟩))
          refine (same_any A1 a1 k k c1 w4 (by unfold maxLen; omega) S1.out).mono ?_
          rintro e w5 ⟨rfl, hb5⟩
          go_wp2_with fail
          refine (same_any A2 a2 q q c2 w5 (by unfold maxLen; omega) (S2.out.below hb5)).mono ?_
          rintro e w6 ⟨rfl, hb6⟩
          go_wp2_with fail
          go_ret
          exact ⟨rfl, z4.trans ((hb5.mono z4.size).trans (hb6.mono (Nat.le_trans z4.size hb5.size)))⟩

end Go.Proofs.Qxb6609482a.Vec
