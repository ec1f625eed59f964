import Derived.Test.Qxb6609482aExA
namespace Go.Proofs.Qxb6609482a.Vec
open Go.RowKit

attribute [local go_sem ↓] exec_slice
set_option maxHeartbeats 1000000 in
theorem ex_some2 (x : Addr) (len cap : Nat) (F : Nat → Nat) (w : World) (hlen : len ≤ 1048576) (hc : ∀ j, j < len → w.cell? (x.add j) = some (.int .u8 (F j : Int))) (hx : 0 < len → x.block < w.heap.size)
    (hF : ∀ j, F j < 256) (h3 : 3 ≤ len) (hbad : len - 3 < be F 3) :
    Calls Try.prog 4 #[.slice (some x) len cap, .bool false] w fun e w' => e = .returned (.bool true) ∧ Below w.heap.size w w' := by
  have q := q22
  have qn := n22
  have pe := ptr_eq
  have pn := ptr_ne
  have mk := fun w => make_row w len hlen
  have hd : decide ((3 : Int) ≤ (len : Int)) = true := by simp; omega
  obtain ⟨w2, cp, hrow2, hB2, hs2⟩ := copy_run x len cap F w hc hx
  have HF : Hid (∀ j, F j < 256) := hF
  clear hc
  have hN : decide ((be F 3 : Int) ≤ (len : Int) - 3) = false := by simp; omega
  go_enter Try.func4, Try.ntmps4
  go_wp2_with (first | (go_at_call 12; refine (bytes12_le _ _ _ _ _ hlen).mono ?_; rintro e w' ⟨rfl, rfl⟩) | (go_at_call 6; refine (newReader _ _ _ _ _).mono ?_; rintro e w3 ⟨rfl, hr3, hb3, hs3⟩; have HS3 : Hid (w3.heap.size = w2.heap.size + 2) := hs3; clear hs3))
  have hrow3 : RowB w3 w.heap.size len F := hrow2.below hb3 hs2
  refine (zzvec24 (w2.heap.size + 1) ⟨w3.heap.size, 0, none⟩ _ w3 (vec_bad2 (w2.heap.size + 1) w2.heap.size w.heap.size len F w3 hr3 (by omega) hs2 (by have := HS3.out; omega) h3 (fun j hj => hrow3 j (by omega)) HF.out hbad)).mono ?_
  rintro e w4 ⟨rfl, hr4, hc4, hb4, hs4⟩
  have hrow4 : RowB w4 w.heap.size len F := hrow3.below hb4 hs2
  clear hr3 hrow2 hrow3 hbad
  have fin : Below w.heap.size w w4 := hB2.trans ((hb3.mono (by omega)).trans (hb4.mono (by omega)))
  have k0 : w4.cell? ⟨w.heap.size, 0, none⟩ = some (.int .u8 (F 0 : Int)) := hrow4 0 (by omega)
  have k1 : w4.cell? ⟨w.heap.size, 1, none⟩ = some (.int .u8 (F 1 : Int)) := hrow4 1 (by omega)
  have k2 : w4.cell? ⟨w.heap.size, 2, none⟩ = some (.int .u8 (F 2 : Int)) := hrow4 2 (by omega)
  have f0 := HF.out 0
  have f1 := HF.out 1
  have f2 := HF.out 2
  have j3 := or3 F HF.out
  have l3 : (3 : Int) ≤ (len : Int) := by omega
  have i0 : (0 : Int) < (len : Int) := by omega
  have i1 : (1 : Int) < (len : Int) := by omega
  have i2 : (2 : Int) < (len : Int) := by omega
  have m0 : 0 < len := by omega
  have m1 : 1 < len := by omega
  have m2 : 2 < len := by omega
  have g0 : IntKind.i64.wrap ((F 0 : Int) * 65536) = (F 0 : Int) * 65536 := by rw [IntKind.wrap_i64]; omega
  have g1 : IntKind.i64.wrap ((F 1 : Int) * 256) = (F 1 : Int) * 256 := by rw [IntKind.wrap_i64]; omega
  go_wp2_with (first | (go_at_call 8; refine (rdBuf _ _ _ _ _ (by assumption)).mono ?_; rintro e w' ⟨rfl, rfl⟩) | (go_at_call 9; refine (rdFailed _ _ _ _ _ (by assumption)).mono ?_; rintro e w' ⟨rfl, rfl⟩) | (go_at_call 10; refine (rdFlag _ _ _ _ _ (by assumption)).mono ?_; rintro e w' ⟨rfl, rfl⟩))
  go_region_held3 (fun w' => w'.cell? ⟨w.heap.size, 0, none⟩ = some (.int .u8 (F 0 : Int)) ∧ w'.cell? ⟨w.heap.size, 1, none⟩ = some (.int .u8 (F 1 : Int)) ∧ w'.cell? ⟨w.heap.size, 2, none⟩ = some (.int .u8 (F 2 : Int))) (go_keep) (fail)
  go_wp2
  go_ret
  exact ⟨rfl, fin.drew⟩

theorem same_cut {w : World} {B L N : Nat} {F : Nat → Nat} (h : RowB w B L F) (hB : B < w.heap.size) (hN : N ≤ L - 3) (h3 : 3 ≤ L) :
    Same w (cutA (some ⟨B, 0, none⟩) L 3) (cutA (some ⟨B, 0, none⟩) L 3) N := by
  by_cases h0 : N = 0
  · exact .inl h0
  refine .inr ⟨B, 3, B, 3, fun j => (F (3 + j) : Int), ?_, ?_, hB, hB, fun j hj => ?_⟩
  · simp [cutA, Addr.add, show L ≠ 3 by omega]
  · simp [cutA, Addr.add, show L ≠ 3 by omega]
  · exact ⟨h _ (by omega), h _ (by omega)⟩
theorem same_rest {w : World} {B L N : Nat} {F : Nat → Nat} (h : RowB w B L F) (hB : B < w.heap.size) (hN : N ≤ L - 3) (h3 : 3 ≤ L) :
    Same w (cutA (cutA (some ⟨B, 0, none⟩) L 3) (L - 3) N) (cutA (some ⟨B, 0, none⟩) L (3 + N)) (L - 3 - N) := by
  by_cases h0 : L - 3 - N = 0
  · exact .inl h0
  refine .inr ⟨B, 3 + N, B, 3 + N, fun j => (F (3 + N + j) : Int), ?_, ?_, hB, hB, fun j hj => ?_⟩
  · by_cases hz : N = 0
    · subst hz; simp [cutA, Addr.add, show L ≠ 3 by omega, show L - 3 ≠ 0 by omega]
    · simp [cutA, Addr.add, show L ≠ 3 by omega, show L - 3 ≠ N by omega, hz]
  · simp [cutA, Addr.add, show L ≠ 3 + N by omega]
  · exact ⟨h _ (by omega), h _ (by omega)⟩
theorem Same.below {w w' : World} {a1 a2 : Option Addr} {n : Nat} (h : Same w a1 a2 n) (hb : Below w.heap.size w w') : Same w' a1 a2 n := by
  rcases h with h | ⟨b1, o1, b2, o2, V, e1, e2, l1, l2, hc⟩
  · exact .inl h
  · exact .inr ⟨b1, o1, b2, o2, V, e1, e2, Nat.lt_of_lt_of_le l1 hb.size, Nat.lt_of_lt_of_le l2 hb.size, fun j hj => ⟨(hb.cell (by exact l1)).trans (hc j hj).1, (hb.cell (by exact l2)).trans (hc j hj).2⟩⟩
theorem cut_some (x : Addr) (c n : Nat) : ∃ y, cutA (some x) c n = some y := by
  unfold cutA; split <;> exact ⟨_, rfl⟩

set_option maxHeartbeats 2000000 in
theorem ex_some3 (x : Addr) (len cap : Nat) (F : Nat → Nat) (w : World) (hlen : len ≤ 1048576) (hc : ∀ j, j < len → w.cell? (x.add j) = some (.int .u8 (F j : Int))) (hx : 0 < len → x.block < w.heap.size)
    (hF : ∀ j, F j < 256) (h3 : 3 ≤ len) (hok : be F 3 ≤ len - 3) :
    Calls Try.prog 4 #[.slice (some x) len cap, .bool false] w fun e w' => e = .returned (.bool true) ∧ Below w.heap.size w w' := by
  have q := q22
  have qn := n22
  have pe := ptr_eq
  have pn := ptr_ne
  have mk := fun w => make_row w len hlen
  have hd : decide ((3 : Int) ≤ (len : Int)) = true := by simp; omega
  obtain ⟨w2, cp, hrow2, hB2, hs2⟩ := copy_run x len cap F w hc hx
  have HF : Hid (∀ j, F j < 256) := hF
  clear hc
  have hN : decide ((be F 3 : Int) ≤ (len : Int) - 3) = true := by simp; omega
  go_enter Try.func4, Try.ntmps4
  go_wp2_with (first | (go_at_call 12; refine (bytes12_le _ _ _ _ _ hlen).mono ?_; rintro e w' ⟨rfl, rfl⟩) | (go_at_call 6; refine (newReader _ _ _ _ _).mono ?_; rintro e w3 ⟨rfl, hr3, hb3, hs3⟩; have HS3 : Hid (w3.heap.size = w2.heap.size + 2) := hs3; clear hs3))
  have hrow3 : RowB w3 w.heap.size len F := hrow2.below hb3 hs2
  refine (zzvec24 (w2.heap.size + 1) ⟨w3.heap.size, 0, none⟩ _ w3 (vec_ok (w2.heap.size + 1) w2.heap.size w.heap.size len F w3 hr3 (by omega) hs2 (by have := HS3.out; omega) h3 (fun j hj => hrow3 j (by omega)) HF.out hok)).mono ?_
  rintro e w4 ⟨rfl, hr4, hc4, hb4, hs4⟩
  have hrow4 : RowB w4 w.heap.size len F := hrow3.below hb4 hs2
  clear hr3 hrow2 hrow3
  have fin : Below w.heap.size w w4 := hB2.trans ((hb3.mono (by omega)).trans (hb4.mono (by omega)))
  have k0 : w4.cell? ⟨w.heap.size, 0, none⟩ = some (.int .u8 (F 0 : Int)) := hrow4 0 (by omega)
  have k1 : w4.cell? ⟨w.heap.size, 1, none⟩ = some (.int .u8 (F 1 : Int)) := hrow4 1 (by omega)
  have k2 : w4.cell? ⟨w.heap.size, 2, none⟩ = some (.int .u8 (F 2 : Int)) := hrow4 2 (by omega)
  have f0 := HF.out 0
  have f1 := HF.out 1
  have f2 := HF.out 2
  have j3 := or3 F HF.out
  have l3 : (3 : Int) ≤ (len : Int) := by omega
  have i0 : (0 : Int) < (len : Int) := by omega
  have i1 : (1 : Int) < (len : Int) := by omega
  have i2 : (2 : Int) < (len : Int) := by omega
  have m0 : 0 < len := by omega
  have m1 : 1 < len := by omega
  have m2 : 2 < len := by omega
  have g0 : IntKind.i64.wrap ((F 0 : Int) * 65536) = (F 0 : Int) * 65536 := by rw [IntKind.wrap_i64]; omega
  have g1 : IntKind.i64.wrap ((F 1 : Int) * 256) = (F 1 : Int) * 256 := by rw [IntKind.wrap_i64]; omega
  have hB4 : w.heap.size < w4.heap.size := by have := hb3.size; omega
  have S1 := same_cut hrow4 hB4 hok h3
  have S2 := same_rest hrow4 hB4 hok h3
  generalize be F 3 = N at *
  have sm0 := fun W => sl_mid (some ⟨w.heap.size, 0, none⟩) len len 3 (3 + N) W (by omega) (by omega)
  have sf0 := fun W => sl_from (some ⟨w.heap.size, 0, none⟩) len len (3 + N) W (by omega)
  obtain ⟨A1, hA1⟩ := cut_some ⟨w.heap.size, 0, none⟩ len 3
  obtain ⟨A2, hA2⟩ := cut_some A1 (len - 3) N
  obtain ⟨A3, hA3⟩ := cut_some ⟨w.heap.size, 0, none⟩ len (3 + N)
  rw [hA1] at S1 S2 hr4 hc4
  rw [hA2] at S2 hr4
  rw [hA3] at S2
  have sm : ∀ W : World, slRun Try.prog (.slice (some ⟨w.heap.size, 0, none⟩) len len) (some (.int .i64 3)) (some (.int .i64 (3 + (N : Int)))) none W = .ok (.value (.slice (some A1) N (len - 3))) W := fun W => by
    have := sm0 W
    rw [hA1] at this
    simpa using this
  have sf : ∀ W : World, slRun Try.prog (.slice (some ⟨w.heap.size, 0, none⟩) len len) (some (.int .i64 (3 + (N : Int)))) none none W = .ok (.value (.slice (some A3) (len - 3 - N) (len - 3 - N))) W := fun W => by
    have := sf0 W
    rw [hA3, Nat.sub_add_eq] at this
    simpa using this
  have HS1 : Hid (Same w4 (some A1) (some A1) N) := S1
  have HS2 : Hid (Same w4 (some A2) (some A3) (len - 3 - N)) := S2
  clear sm0 sf0 hA1 hA2 hA3 S1 S2
  have hmx : len ≤ maxLen := by unfold maxLen; omega
  go_wp2_with (first | (go_at_call 8; refine (rdBuf _ _ _ _ _ (by assumption)).mono ?_; rintro e w' ⟨rfl, rfl⟩) | (go_at_call 9; refine (rdFailed _ _ _ _ _ (by assumption)).mono ?_; rintro e w' ⟨rfl, rfl⟩) | (go_at_call 10; refine (rdFlag _ _ _ _ _ (by assumption)).mono ?_; rintro e w' ⟨rfl, rfl⟩))
  go_region_held3 (fun w' => w'.cell? ⟨w.heap.size, 0, none⟩ = some (.int .u8 (F 0 : Int)) ∧ w'.cell? ⟨w.heap.size, 1, none⟩ = some (.int .u8 (F 1 : Int)) ∧ w'.cell? ⟨w.heap.size, 2, none⟩ = some (.int .u8 (F 2 : Int))) (go_keep) (fail)
  go_wp2_with fail
  refine (sameBytes A1 A1 N N (len - 3) w4.drew (by omega) HS1.out).mono ?_
  rintro e w5 ⟨rfl, hb5⟩
  go_wp2_with fail
  refine (sameBytes A2 A3 (len - 3 - N) (len - 3 - N) (len - 3 - N) w5 (by omega) (Same.below (w := w4.drew) HS2.out hb5)).mono ?_
  rintro e w6 ⟨rfl, hb6⟩
  go_wp2_with fail
  go_ret
  exact ⟨rfl, fin.drew.trans ((hb5.mono fin.size).trans (hb6.mono (Nat.le_trans fin.size hb5.size)))⟩

end Go.Proofs.Qxb6609482a.Vec

