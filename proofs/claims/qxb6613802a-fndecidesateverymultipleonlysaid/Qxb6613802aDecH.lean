import Derived.Test.Qxb6613802aDecG
namespace Go.Proofs.Qxb6613802a.Dec
open Go.RowKit

attribute [local go_sem ↓] exec_load41 exec_load35 exec_store41

theorem pol_next' (n0 n11 n12 n15 n16 n21 n22 d : Int) (x1 x2 x3 x4 x5 x6 x7 x8 x13 x14 x17 x18 x19 : Nat) (b9 b10 : Option Addr) (m9 q9 m10 q10 : Nat) (w W w4 : World) (b : Nat) (H : W.rangeAt b 0 [.int .i64 n0, .float .f64 x1, .float .f64 x2, .float .f64 x3, .float .f64 x4, .float .f64 x5, .float .f64 x6, .float .f64 x7, .float .f64 x8, .slice b9 m9 q9, .slice b10 m10 q10, .int .i64 n11, .int .i64 n12, .float .f64 x13, .float .f64 x14, .int .i64 n15, .int .i64 n16, .float .f64 x17, .float .f64 x18, .float .f64 x19, .int .i64 d, .int .i64 n21, .int .i64 n22] ∧ ldRun Try.prog 41 (.pointer (some ⟨b, 0, none⟩)) W = .ok (.value (.agg #[.int .i64 n0, .float .f64 x1, .float .f64 x2, .float .f64 x3, .float .f64 x4, .float .f64 x5, .float .f64 x6, .float .f64 x7, .float .f64 x8, .slice b9 m9 q9, .slice b10 m10 q10, .int .i64 n11, .int .i64 n12, .float .f64 x13, .float .f64 x14, .int .i64 n15, .int .i64 n16, .float .f64 x17, .float .f64 x18, .float .f64 x19, .int .i64 d, .int .i64 n21, .int .i64 n22])) W ∧ Below w.heap.size w W ∧ b < W.heap.size) (hb : Below W.heap.size W w4) :
    w4.rangeAt b 0 [.int .i64 n0, .float .f64 x1, .float .f64 x2, .float .f64 x3, .float .f64 x4, .float .f64 x5, .float .f64 x6, .float .f64 x7, .float .f64 x8, .slice b9 m9 q9, .slice b10 m10 q10, .int .i64 n11, .int .i64 n12, .float .f64 x13, .float .f64 x14, .int .i64 n15, .int .i64 n16, .float .f64 x17, .float .f64 x18, .float .f64 x19, .int .i64 d, .int .i64 n21, .int .i64 n22] ∧ ldRun Try.prog 41 (.pointer (some ⟨b, 0, none⟩)) w4 = .ok (.value (.agg #[.int .i64 n0, .float .f64 x1, .float .f64 x2, .float .f64 x3, .float .f64 x4, .float .f64 x5, .float .f64 x6, .float .f64 x7, .float .f64 x8, .slice b9 m9 q9, .slice b10 m10 q10, .int .i64 n11, .int .i64 n12, .float .f64 x13, .float .f64 x14, .int .i64 n15, .int .i64 n16, .float .f64 x17, .float .f64 x18, .float .f64 x19, .int .i64 d, .int .i64 n21, .int .i64 n22])) w4 ∧ Below w.heap.size w w4 ∧ b < w4.heap.size :=
  pol_next n0 n11 n12 n15 n16 n21 n22 d x1 x2 x3 x4 x5 x6 x7 x8 x13 x14 x17 x18 x19 b9 b10 m9 q9 m10 q10 w W w4 b H.1 H.2.2.1 H.2.2.2 hb
theorem pol_drew (n0 n11 n12 n15 n16 n21 n22 d : Int) (x1 x2 x3 x4 x5 x6 x7 x8 x13 x14 x17 x18 x19 : Nat) (b9 b10 : Option Addr) (m9 q9 m10 q10 : Nat) (w W : World) (b : Nat) (R : W.rangeAt b 0 [.int .i64 n0, .float .f64 x1, .float .f64 x2, .float .f64 x3, .float .f64 x4, .float .f64 x5, .float .f64 x6, .float .f64 x7, .float .f64 x8, .slice b9 m9 q9, .slice b10 m10 q10, .int .i64 n11, .int .i64 n12, .float .f64 x13, .float .f64 x14, .int .i64 n15, .int .i64 n16, .float .f64 x17, .float .f64 x18, .float .f64 x19, .int .i64 d, .int .i64 n21, .int .i64 n22]) (z : Below w.heap.size w W) (s : b < W.heap.size) :
    W.drew.rangeAt b 0 [.int .i64 n0, .float .f64 x1, .float .f64 x2, .float .f64 x3, .float .f64 x4, .float .f64 x5, .float .f64 x6, .float .f64 x7, .float .f64 x8, .slice b9 m9 q9, .slice b10 m10 q10, .int .i64 n11, .int .i64 n12, .float .f64 x13, .float .f64 x14, .int .i64 n15, .int .i64 n16, .float .f64 x17, .float .f64 x18, .float .f64 x19, .int .i64 d, .int .i64 n21, .int .i64 n22] ∧ ldRun Try.prog 41 (.pointer (some ⟨b, 0, none⟩)) W.drew = .ok (.value (.agg #[.int .i64 n0, .float .f64 x1, .float .f64 x2, .float .f64 x3, .float .f64 x4, .float .f64 x5, .float .f64 x6, .float .f64 x7, .float .f64 x8, .slice b9 m9 q9, .slice b10 m10 q10, .int .i64 n11, .int .i64 n12, .float .f64 x13, .float .f64 x14, .int .i64 n15, .int .i64 n16, .float .f64 x17, .float .f64 x18, .float .f64 x19, .int .i64 d, .int .i64 n21, .int .i64 n22])) W.drew ∧ Below w.heap.size w W.drew ∧ b < W.drew.heap.size :=
  ⟨R, ld41 n0 n11 n12 n15 n16 n21 n22 d x1 x2 x3 x4 x5 x6 x7 x8 x13 x14 x17 x18 x19 b9 b10 m9 q9 m10 q10 b W.drew R, z.drew, s⟩

theorem zzdec_b (n0 n11 n12 n15 n16 n21 n22 d : Int) (x1 x2 x3 x4 x5 x6 x7 x8 x13 x14 x17 x18 x19 : Nat) (a9 a10 : Option Addr) (l9 k9 l10 k10 : Nat) (t : Int) (b : Bool) (w : World) (hd : 1 < d) (hb : (t.tmod d == 0) = b) :
    Calls Try.prog 16 #[.agg #[.int .i64 n0, .float .f64 x1, .float .f64 x2, .float .f64 x3, .float .f64 x4, .float .f64 x5, .float .f64 x6, .float .f64 x7, .float .f64 x8, .slice a9 l9 k9, .slice a10 l10 k10, .int .i64 n11, .int .i64 n12, .float .f64 x13, .float .f64 x14, .int .i64 n15, .int .i64 n16, .float .f64 x17, .float .f64 x18, .float .f64 x19, .int .i64 d, .int .i64 n21, .int .i64 n22], .int .i64 t] w fun e w' => e = .returned (.bool b) ∧ Below w.heap.size w w' := by
  rw [← hb]
  exact zzdec_gt n0 n11 n12 n15 n16 n21 n22 d x1 x2 x3 x4 x5 x6 x7 x8 x13 x14 x17 x18 x19 a9 a10 l9 k9 l10 k10 t w hd

theorem wrap_id {x : Int} (h1 : -9223372036854775808 ≤ x) (h2 : x ≤ 9223372036854775807) : wrap64 x = x := by
  unfold wrap64; omega
theorem neg_tdiv {d : Int} (hd : 1 < d) : wrap64 (-Int.tdiv 9223372036854775808 d) = -(9223372036854775808 / d) := by
  rw [Int.tdiv_eq_ediv_of_nonneg (by omega)]
  have h1 : 9223372036854775808 / d ≤ 9223372036854775808 := Int.ediv_le_self _ (by omega)
  have h2 : 0 ≤ 9223372036854775808 / d := Int.ediv_nonneg (by omega) (by omega)
  have h3 : d * (9223372036854775808 / d) ≤ 9223372036854775808 := Int.mul_ediv_self_le (by omega)
  exact wrap_id (by omega) (by omega)
/-- The plain law. -/
theorem law {k d t : Int} (hd : 1 < d) (h1 : k ≤ 9223372036854775807 / d) (h2 : wrap64 (-Int.tdiv 9223372036854775808 d) ≤ k) (h3 : (wrap64 (k * d) == 9223372036854775807) = false) :
    -9223372036854775808 ≤ wrap64 (k * d) ∧ wrap64 (k * d) < 9223372036854775807 ∧ ((wrap64 (k * d)).tmod d == 0) = true ∧ ((wrap64 (k * d) + 1).tmod d == 0) = false ∧ ((t + d).tmod d == 0) = (t.tmod d == 0) := by
  have e1 : k * d ≤ 9223372036854775807 := by
    have a := Int.mul_le_mul_of_nonneg_right h1 (show 0 ≤ d by omega)
    have b := Int.ediv_mul_le 9223372036854775807 (show d ≠ 0 by omega)
    omega
  have e2 : -9223372036854775808 ≤ k * d := by
    rw [neg_tdiv hd] at h2
    have a := Int.mul_le_mul_of_nonneg_right h2 (show 0 ≤ d by omega)
    have b := Int.ediv_mul_le 9223372036854775808 (show d ≠ 0 by omega)
    rw [Int.neg_mul] at a
    omega
  have ew := wrap_id e2 e1
  rw [ew] at h3 ⊢
  have h3' : k * d ≠ 9223372036854775807 := by simpa using h3
  refine ⟨e2, by omega, ?_, ?_, ?_⟩
  · simp [Int.mul_tmod_left]
  · simp only [beq_eq_false_iff_ne, ne_eq]
    intro h
    have := Int.dvd_of_tmod_eq_zero h
    have h1' : d ∣ 1 := by
      have q := Int.dvd_sub this (Int.dvd_mul_left k d)
      rwa [show k * d + 1 - k * d = 1 by omega] at q
    have := Int.le_of_dvd (by omega) h1'
    omega
  · rw [Bool.eq_iff_iff]
    simp only [beq_iff_eq]
    constructor
    · intro h
      have := Int.dvd_of_tmod_eq_zero h
      have q := Int.dvd_sub this (Int.dvd_refl d)
      rw [show t + d - d = t by omega] at q
      exact Int.tmod_eq_zero_of_dvd q
    · intro h
      exact Int.tmod_eq_zero_of_dvd (Int.dvd_add (Int.dvd_of_tmod_eq_zero h) (Int.dvd_refl d))

set_option maxHeartbeats 1000000 in
theorem f4_gt (n0 n11 n12 n15 n16 n21 n22 d : Int) (x1 x2 x3 x4 x5 x6 x7 x8 x13 x14 x17 x18 x19 : Nat) (a9 a10 : Option Addr) (l9 k9 l10 k10 : Nat) (k t : Int) (w : World) (hl9 : l9 ≤ maxLen) (hl10 : l10 ≤ maxLen) (hB : bytesB l9 l10 = true) (h9 : LimOk w a9 l9 k9) (h10 : LimOk w a10 l10 k10) (g9 : l9 ≤ 16384) (g10 : l10 ≤ 16384) (hd : 1 < d) (hd2 : d ≤ 9223372036854775807)
    (_hk1 : -9223372036854775808 ≤ k) (_hk2 : k ≤ 9223372036854775807) (ht1 : -9223372036854775808 ≤ t) (ht2 : t ≤ 9223372036854775807) :
    Calls Try.prog 4 #[.agg #[.int .i64 n0, .float .f64 x1, .float .f64 x2, .float .f64 x3, .float .f64 x4, .float .f64 x5, .float .f64 x6, .float .f64 x7, .float .f64 x8, .slice a9 l9 k9, .slice a10 l10 k10, .int .i64 n11, .int .i64 n12, .float .f64 x13, .float .f64 x14, .int .i64 n15, .int .i64 n16, .float .f64 x17, .float .f64 x18, .float .f64 x19, .int .i64 d, .int .i64 n21, .int .i64 n22], .int .i64 k, .int .i64 t] w fun e w' => e = .returned (.bool true) ∧ Below w.heap.size w w' := by
  obtain ⟨ld, c9, c10, c20⟩ := box_facts n0 n11 n12 n15 n16 n21 n22 d x1 x2 x3 x4 x5 x6 x7 x8 x13 x14 x17 x18 x19 a9 a10 l9 k9 l10 k10 w _ (range_new n0 n11 n12 n15 n16 n21 n22 d x1 x2 x3 x4 x5 x6 x7 x8 x13 x14 x17 x18 x19 a9 a10 l9 k9 l10 k10 w 35)
  have g9' : (l9 : Int) ≤ 16384 := by omega
  have g10' : (l10 : Int) ≤ 16384 := by omega
  have hd3 : ¬ d ≤ 1 := by omega
  go_enter Try.func4, Try.ntmps4
  go_wp2_with (first | (go_at_call 14; refine (bytes_any _ _ _ _ _ _ _ _ _ _ _ _ _ _ _ _ _ _ _ _ _ _ _ _ _ _ _ _ _ _ hl9 hl10).mono ?_; rintro e w1 ⟨rfl, hb1⟩; obtain ⟨R1, ld1, e9, e10, e20⟩ := box_next n0 n11 n12 n15 n16 n21 n22 d x1 x2 x3 x4 x5 x6 x7 x8 x13 x14 x17 x18 x19 a9 a10 l9 k9 l10 k10 w _ w1 (range_new n0 n11 n12 n15 n16 n21 n22 d x1 x2 x3 x4 x5 x6 x7 x8 x13 x14 x17 x18 x19 a9 a10 l9 k9 l10 k10 w 35) (by simp) hb1; have z1 : Below w.heap.size w w1 := ((Below.refl _ _).alloc (Nat.le_refl _) _).trans (hb1.mono (by simp)); have s1 : w.heap.size < w1.heap.size := Nat.lt_of_lt_of_le (by simp) hb1.size; clear hb1) | (go_at_call 15; refine (pol_any _ _ _ _ _ _ _ _ _ _ _ _ _ _ _ _ _ _ _ _ _ _ _ _ _ _ _ _ (h9.below z1) (h10.below z1) g9 g10).mono ?_; rintro e w2 ⟨b9, m9, q9, b10, m10, q10, rfl, hb2⟩; obtain ⟨R2, ld2, e9', e10', e20'⟩ := box_next n0 n11 n12 n15 n16 n21 n22 d x1 x2 x3 x4 x5 x6 x7 x8 x13 x14 x17 x18 x19 a9 a10 l9 k9 l10 k10 w _ w2 R1 s1 hb2; have z2 : Below w.heap.size w w2 := z1.trans (hb2.mono (by omega)); have s2 : w.heap.size < w2.heap.size := Nat.lt_of_lt_of_le s1 hb2.size; clear hb2 ld1 e9 e10 e20 R1 z1 s1; have st := polStoreRun_eq n0 n11 n12 n15 n16 n21 n22 d x1 x2 x3 x4 x5 x6 x7 x8 x13 x14 x17 x18 x19 b9 b10 m9 q9 m10 q10 w2.heap.size (w2.alloc (.cells #[.int .i64 0, .float .f64 0, .float .f64 0, .float .f64 0, .float .f64 0, .float .f64 0, .float .f64 0, .float .f64 0, .float .f64 0, .slice none 0 0, .slice none 0 0, .int .i64 0, .int .i64 0, .float .f64 0, .float .f64 0, .int .i64 0, .int .i64 0, .float .f64 0, .float .f64 0, .float .f64 0, .int .i64 0, .int .i64 0, .int .i64 0] 41)) (there_new w2); obtain ⟨W3, hW3⟩ : ∃ W, W = (w2.alloc (.cells #[.int .i64 0, .float .f64 0, .float .f64 0, .float .f64 0, .float .f64 0, .float .f64 0, .float .f64 0, .float .f64 0, .float .f64 0, .slice none 0 0, .slice none 0 0, .int .i64 0, .int .i64 0, .float .f64 0, .float .f64 0, .int .i64 0, .int .i64 0, .float .f64 0, .float .f64 0, .float .f64 0, .int .i64 0, .int .i64 0, .int .i64 0] 41)).setCells w2.heap.size 0 [.int .i64 n0, .float .f64 x1, .float .f64 x2, .float .f64 x3, .float .f64 x4, .float .f64 x5, .float .f64 x6, .float .f64 x7, .float .f64 x8, .slice b9 m9 q9, .slice b10 m10 q10, .int .i64 n11, .int .i64 n12, .float .f64 x13, .float .f64 x14, .int .i64 n15, .int .i64 n16, .float .f64 x17, .float .f64 x18, .float .f64 x19, .int .i64 d, .int .i64 n21, .int .i64 n22] := ⟨_, rfl⟩; obtain ⟨R3, f20, z3, s3⟩ := pol_laid n0 n11 n12 n15 n16 n21 n22 d x1 x2 x3 x4 x5 x6 x7 x8 x13 x14 x17 x18 x19 b9 b10 m9 q9 m10 q10 w w2 W3 z2 s2 e20' hW3; rw [← hW3] at st; have ld3 := ld41 n0 n11 n12 n15 n16 n21 n22 d x1 x2 x3 x4 x5 x6 x7 x8 x13 x14 x17 x18 x19 b9 b10 m9 q9 m10 q10 w2.heap.size W3 R3; clear hW3 R2 ld2 e9' e10' e20' z2 s2))
  all_goals first | (go_ret; exact ⟨rfl, by assumption⟩) | skip
  have q3 : (k ≤ 9223372036854775807 / d ∧ wrap64 (-Int.tdiv 9223372036854775808 d) ≤ k) ∧ t ≤ 9223372036854775807 - d := by assumption
  have q4 : (wrap64 (k * d) == 9223372036854775807) = false := by assumption
  obtain ⟨m1, m2, m3, m4, m5⟩ := law (t := t) hd q3.1.1 q3.1.2 q4
  have q5 := q3.2
  generalize wrap64 (k * d) = m at *
  generalize hc : (t.tmod d == 0) = c at *
  have hw1 : IntKind.i64.wrap (m + 1) = m + 1 := by rw [IntKind.wrap_i64]; omega
  have hw2 : IntKind.i64.wrap (t + d) = t + d := by rw [IntKind.wrap_i64]; omega
  go_region_held3 (fun w' => w'.rangeAt w2.heap.size 0 [.int .i64 n0, .float .f64 x1, .float .f64 x2, .float .f64 x3, .float .f64 x4, .float .f64 x5, .float .f64 x6, .float .f64 x7, .float .f64 x8, .slice b9 m9 q9, .slice b10 m10 q10, .int .i64 n11, .int .i64 n12, .float .f64 x13, .float .f64 x14, .int .i64 n15, .int .i64 n16, .float .f64 x17, .float .f64 x18, .float .f64 x19, .int .i64 d, .int .i64 n21, .int .i64 n22] ∧ ldRun Try.prog 41 (.pointer (some ⟨w2.heap.size, 0, none⟩)) w' = .ok (.value (.agg #[.int .i64 n0, .float .f64 x1, .float .f64 x2, .float .f64 x3, .float .f64 x4, .float .f64 x5, .float .f64 x6, .float .f64 x7, .float .f64 x8, .slice b9 m9 q9, .slice b10 m10 q10, .int .i64 n11, .int .i64 n12, .float .f64 x13, .float .f64 x14, .int .i64 n15, .int .i64 n16, .float .f64 x17, .float .f64 x18, .float .f64 x19, .int .i64 d, .int .i64 n21, .int .i64 n22])) w' ∧ Below w.heap.size w w' ∧ w2.heap.size < w'.heap.size) (first | exact pol_drew n0 n11 n12 n15 n16 n21 n22 d x1 x2 x3 x4 x5 x6 x7 x8 x13 x14 x17 x18 x19 b9 b10 m9 q9 m10 q10 w _ _ R3 z3 s3 | exact pol_next' n0 n11 n12 n15 n16 n21 n22 d x1 x2 x3 x4 x5 x6 x7 x8 x13 x14 x17 x18 x19 b9 b10 m9 q9 m10 q10 w _ _ _ (by assumption) hb4)
    (first | (go_at_call 16; refine (zzdec_b _ _ _ _ _ _ _ _ _ _ _ _ _ _ _ _ _ _ _ _ _ _ _ _ _ _ _ _ _ _ hd (by assumption)).mono ?_; rintro e w4 ⟨rfl, hb4⟩))
  all_goals (go_wp2; go_ret)
  rename_i H
  exact ⟨rfl, H.2.2.1⟩

end Go.Proofs.Qxb6613802a.Dec

