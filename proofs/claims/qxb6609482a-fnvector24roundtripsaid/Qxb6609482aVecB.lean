import Derived.Test.Qxb6609482aVecA
namespace Go.Proofs.Qxb6609482a.Vec
open Go.RowKit

/-- The big-endian number of the first k bytes. -/
def be (F : Nat → Nat) : Nat → Nat
  | 0 => 0
  | k + 1 => be F k * 256 + F k

set_option maxHeartbeats 400000 in
theorem uint_bad (r f len cap : Nat) (a : Option Addr) (fl : Bool) (w : World) (hr : RdAt w r f (.slice a len cap) fl) (hne : f < r) (hbad : fl = true ∨ len < 3) :
    Calls Try.prog 16 #[.pointer (some ⟨r, 0, none⟩), .int .i64 3] w fun e w' => e = .returned (.int .i64 0) ∧ RdAt w' r f (.slice none 0 0) true ∧ Below f w w' ∧ w'.heap.size = w.heap.size := by
  have hbad' : fl = true ∨ (len : Int) < 3 := hbad.imp id (fun h => by omega)
  clear hbad
  go_enter Try.func16, Try.ntmps16
  go_wp2_with (go_at_call 17; refine (take_bad r f len cap a fl 3 w hr hne hbad').mono ?_; rintro e w1 ⟨rfl, hr1, hb1, hs1⟩)
  refine wp_loop_rounds 1 ?_
  rw [rounds_succ]
  go_wp2
  go_ret
  exact ⟨rfl, hr1, hb1, hs1⟩

set_option maxHeartbeats 1000000 in
theorem uint_ok (r f B L : Nat) (F : Nat → Nat) (w : World) (hr : RdAt w r f (.slice (some ⟨B, 0, none⟩) L L) false) (hne : f < r) (hB : B < f) (hL : 3 ≤ L)
    (hc : ∀ j, j < 3 → w.cell? ⟨B, j, none⟩ = some (.int .u8 (F j : Int))) (hF : ∀ j, F j < 256) :
    Calls Try.prog 16 #[.pointer (some ⟨r, 0, none⟩), .int .i64 3] w fun e w' => e = .returned (.int .i64 (be F 3 : Int)) ∧ RdAt w' r f (.slice (cutA (some ⟨B, 0, none⟩) L 3) (L - 3) (L - 3)) false ∧ Below f w w' ∧ w'.heap.size = w.heap.size := by
  have HC : Hid (∀ j, j < 3 → w.cell? ⟨B, j, none⟩ = some (.int .u8 (F j : Int))) := hc
  have HF : Hid (∀ j, F j < 256) := hF
  clear hc hF
  go_enter Try.func16, Try.ntmps16
  go_wp2_with (go_at_call 17; refine (take_ok r f L L 3 (some ⟨B, 0, none⟩) w hr hne hL (Nat.le_refl _)).mono ?_; rintro e w1 ⟨rfl, hr1, hb1, hs1⟩)
  go_loop [5, 12] (fun v i => ∃ k : Nat, k ≤ 3 ∧ i = .int .i64 (k : Int) ∧ v = .int .i64 (be F k : Int)) (fun _ i => 3 - (intOf i).toNat)
  case atStart => exact ⟨0, by omega, rfl, rfl⟩
  case round =>
    obtain ⟨k, hk, rfl, rfl⟩ := hrel
    by_cases hlt : k < 3
    · have c1 : w1.cell? ⟨B, k, none⟩ = some (.int .u8 (F k : Int)) := (hb1.cell (by exact hB)).trans (HC.out k hlt)
      have b1 := HF.out k
      have b2 : be F k < 65536 := by
        have h0 := HF.out 0
        have h1 := HF.out 1
        match k, hlt with
        | 0, _ => show (0 : Nat) < 65536; omega
        | 1, _ => show 0 * 256 + F 0 < 65536; omega
        | 2, _ => show (0 * 256 + F 0) * 256 + F 1 < 65536; omega
      have j8 := join8 (be F k) (F k) b2 b1
      have e8 : Hid (be F (k + 1) = be F k * 256 + F k) := rfl
      generalize be F k = v at *
      generalize F k = c at *
      go_wp2
      go_round
      case rel => exact ⟨k + 1, by omega, by go_num, by rw [e8.out]; go_num⟩
      case measure => simp [intOf]; omega
    · have hk3 : k = 3 := by omega
      subst hk3
      go_wp2
      go_ret
      exact ⟨rfl, hr1, hb1, hs1⟩

/-- The child is laid. -/
theorem child {w w2 : World} {r f N : Nat} {v u : Value} {fl : Bool} (hr : RdAt w2 r f v fl) (hb : Below f w w2) (hs : w2.heap.size = N) (hrs : r < N) (hne : f < r) :
    RdAt (w2.alloc (.cells #[u, .pointer (some ⟨f, 0, none⟩)] 34)) r f v fl ∧ RdAt (w2.alloc (.cells #[u, .pointer (some ⟨f, 0, none⟩)] 34)) N f u fl ∧ Below f w (w2.alloc (.cells #[u, .pointer (some ⟨f, 0, none⟩)] 34)) ∧
    N < (w2.alloc (.cells #[u, .pointer (some ⟨f, 0, none⟩)] 34)).heap.size := by
  subst hs
  have ha := (Below.refl w2.heap.size w2).alloc (Nat.le_refl _) (.cells #[u, .pointer (some ⟨f, 0, none⟩)] 34)
  have h1 := hr.below ha hrs (by omega)
  refine ⟨h1, ⟨by simp, by simp, h1.2.2.1, by simp, h1.2.2.2.2⟩, hb.alloc (by omega) _, by simp⟩

set_option maxHeartbeats 1000000 in
theorem vec_bad1 (r f len cap : Nat) (a : Option Addr) (fl : Bool) (w : World) (hr : RdAt w r f (.slice a len cap) fl) (hne : f < r) (hrs : r < w.heap.size) (hbad : fl = true ∨ len < 3) :
    Calls Try.prog 15 #[.pointer (some ⟨r, 0, none⟩), .int .i64 3] w fun e w' => e = .returned (.pointer (some ⟨w.heap.size, 0, none⟩)) ∧ RdAt w' r f (.slice none 0 0) true ∧ RdAt w' w.heap.size f (.slice none 0 0) true ∧ Below f w w' ∧ w.heap.size < w'.heap.size := by
  go_enter Try.func15, Try.ntmps15
  go_wp2_with (go_at_call 16; refine (uint_bad r f len cap a fl w hr hne hbad).mono ?_; rintro e w1 ⟨rfl, hr1, hb1, hs1⟩)
  obtain ⟨h0, h1, h2, f0, f1⟩ := hr1
  have HS : Hid (w1.heap.size = w.heap.size) := hs1
  clear hs1
  go_region_held3 (fun w' => w'.cell? ⟨r, 1, none⟩ = some (.pointer (some ⟨f, 0, none⟩))) (go_keep) (first | (go_at_call 17; refine (take_bad r f 0 0 none true 0 _ ?_ hne (.inl rfl)).mono ?_; exact ⟨h0, h1, h2, f0, f1⟩; rintro e w2 ⟨rfl, hr2, hb2, hs2⟩; have hp2 := hr2.2.1; have HS2 : Hid (w2.heap.size = w.heap.size) := hs2.trans HS.out; clear hs2))
  go_wp2
  go_ret
  obtain ⟨c1, c2, c3, c4⟩ := child (u := .slice none 0 0) hr2 (hb1.drew.trans hb2) HS2.out hrs hne
  exact ⟨by rw [HS2.out]; rfl, c1, c2, c3, c4⟩

set_option maxHeartbeats 1000000 in
theorem vec_bad2 (r f B L : Nat) (F : Nat → Nat) (w : World) (hr : RdAt w r f (.slice (some ⟨B, 0, none⟩) L L) false) (hne : f < r) (hB : B < f) (hrs : r < w.heap.size) (hL : 3 ≤ L)
    (hc : ∀ j, j < 3 → w.cell? ⟨B, j, none⟩ = some (.int .u8 (F j : Int))) (hF : ∀ j, F j < 256) (hbad : L - 3 < be F 3) :
    Calls Try.prog 15 #[.pointer (some ⟨r, 0, none⟩), .int .i64 3] w fun e w' => e = .returned (.pointer (some ⟨w.heap.size, 0, none⟩)) ∧ RdAt w' r f (.slice none 0 0) true ∧ RdAt w' w.heap.size f (.slice none 0 0) true ∧ Below f w w' ∧ w.heap.size < w'.heap.size := by
  have HU : Hid (Calls Try.prog 16 #[.pointer (some ⟨r, 0, none⟩), .int .i64 3] w fun e w' => e = .returned (.int .i64 (be F 3 : Int)) ∧ RdAt w' r f (.slice (cutA (some ⟨B, 0, none⟩) L 3) (L - 3) (L - 3)) false ∧ Below f w w' ∧ w'.heap.size = w.heap.size) := uint_ok r f B L F w hr hne hB hL hc hF
  clear hc hF hr
  have hbad' : ((L - 3 : Nat) : Int) < (be F 3 : Int) := by omega
  generalize be F 3 = N at *
  generalize cutA (some ⟨B, 0, none⟩) L 3 = A at *
  generalize L - 3 = M at *
  go_enter Try.func15, Try.ntmps15
  go_wp2_with (go_at_call 16; refine HU.out.mono ?_; rintro e w1 ⟨rfl, hr1, hb1, hs1⟩)
  obtain ⟨h0, h1, h2, f0, f1⟩ := hr1
  have HS : Hid (w1.heap.size = w.heap.size) := hs1
  clear hs1
  go_region_held3 (fun w' => w'.cell? ⟨r, 1, none⟩ = some (.pointer (some ⟨f, 0, none⟩))) (go_keep) (first | (go_at_call 17; refine (take_bad r f M M A false _ _ ?_ hne (.inr hbad')).mono ?_; exact ⟨h0, h1, h2, f0, f1⟩; rintro e w2 ⟨rfl, hr2, hb2, hs2⟩; have hp2 := hr2.2.1; have HS2 : Hid (w2.heap.size = w.heap.size) := hs2.trans HS.out; clear hs2))
  go_wp2
  go_ret
  obtain ⟨c1, c2, c3, c4⟩ := child (u := .slice none 0 0) hr2 (hb1.drew.trans hb2) HS2.out hrs hne
  exact ⟨by rw [HS2.out]; rfl, c1, c2, c3, c4⟩

set_option maxHeartbeats 1000000 in
theorem vec_ok (r f B L : Nat) (F : Nat → Nat) (w : World) (hr : RdAt w r f (.slice (some ⟨B, 0, none⟩) L L) false) (hne : f < r) (hB : B < f) (hrs : r < w.heap.size) (hL : 3 ≤ L)
    (hc : ∀ j, j < 3 → w.cell? ⟨B, j, none⟩ = some (.int .u8 (F j : Int))) (hF : ∀ j, F j < 256) (hok : be F 3 ≤ L - 3) :
    Calls Try.prog 15 #[.pointer (some ⟨r, 0, none⟩), .int .i64 3] w fun e w' => e = .returned (.pointer (some ⟨w.heap.size, 0, none⟩)) ∧ RdAt w' r f (.slice (cutA (cutA (some ⟨B, 0, none⟩) L 3) (L - 3) (be F 3)) (L - 3 - be F 3) (L - 3 - be F 3)) false ∧
      RdAt w' w.heap.size f (.slice (cutA (some ⟨B, 0, none⟩) L 3) (be F 3) (be F 3)) false ∧ Below f w w' ∧ w.heap.size < w'.heap.size := by
  have HU : Hid (Calls Try.prog 16 #[.pointer (some ⟨r, 0, none⟩), .int .i64 3] w fun e w' => e = .returned (.int .i64 (be F 3 : Int)) ∧ RdAt w' r f (.slice (cutA (some ⟨B, 0, none⟩) L 3) (L - 3) (L - 3)) false ∧ Below f w w' ∧ w'.heap.size = w.heap.size) := uint_ok r f B L F w hr hne hB hL hc hF
  clear hc hF hr
  generalize be F 3 = N at *
  generalize cutA (some ⟨B, 0, none⟩) L 3 = A at *
  generalize L - 3 = M at *
  go_enter Try.func15, Try.ntmps15
  go_wp2_with (go_at_call 16; refine HU.out.mono ?_; rintro e w1 ⟨rfl, hr1, hb1, hs1⟩)
  obtain ⟨h0, h1, h2, f0, f1⟩ := hr1
  have HS : Hid (w1.heap.size = w.heap.size) := hs1
  clear hs1
  go_region_held3 (fun w' => w'.cell? ⟨r, 1, none⟩ = some (.pointer (some ⟨f, 0, none⟩))) (go_keep) (first | (go_at_call 17; refine (take_ok r f M M N A _ ?_ hne hok (Nat.le_refl _)).mono ?_; exact ⟨h0, h1, h2, f0, f1⟩; rintro e w2 ⟨rfl, hr2, hb2, hs2⟩; have hp2 := hr2.2.1; have HS2 : Hid (w2.heap.size = w.heap.size) := hs2.trans HS.out; clear hs2))
  go_wp2
  go_ret
  obtain ⟨c1, c2, c3, c4⟩ := child (u := .slice A N N) hr2 (hb1.drew.trans hb2) HS2.out hrs hne
  exact ⟨by rw [HS2.out]; rfl, c1, c2, c3, c4⟩

end Go.Proofs.Qxb6609482a.Vec
