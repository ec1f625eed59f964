import Derived.Test.Qxb6613802aRingB
namespace Go.Proofs.Qxb6613802a.Ring
open Go.RowKit

theorem RowF.hid {w : World} {b n : Nat} {F : Nat → Nat} (h : RowF w b n F) : Hid (∀ j, j < n → w.cell? ⟨b, 0 + j, none⟩ = some (.float .f64 (F j))) :=
  fun j hj => by rw [Nat.zero_add]; exact h j hj

set_option maxHeartbeats 2000000 in
theorem f3_in (b off len cap head n k m : Nat) (F : Nat → Nat) (w : World) (hl : len ≤ 131072) (hb : b < w.heap.size) (hc : Hid (∀ j, j < len → w.cell? ⟨b, off + j, none⟩ = some (.float .f64 (F j))))
    (hh : head < len) (hn : n ≤ len) (hk : k ≤ n) (hmk : m + k = n) :
    Calls Try.prog 3 #[.slice (some ⟨b, off, none⟩) len cap, .int .i64 (head : Int), .int .i64 (n : Int), .int .i64 (k : Int)] w fun e w' => e = .returned (.bool true) ∧ Below w.heap.size w w' := by
  have hl0 : ((len : Int) == 0) = false := by simp; omega
  have hh' : (head : Int) < len := by omega
  have hn' : (n : Int) ≤ len := by omega
  have hk' : (k : Int) ≤ n := by omega
  go_enter Try.func3, Try.ntmps3
  go_wp2_with (go_at_call 5; refine (bytes_le _ _ _ _ _ _ _ (by omega)).mono ?_; rintro e w' ⟨rfl, rfl⟩)
  refine (clone_some b off len cap F _ hl hb hc).mono ?_
  rintro e w1 ⟨rfl, r1, b1, s1⟩
  go_wp2_with fail
  refine (clone_some w.heap.size 0 len len F w1 hl s1 r1.hid).mono ?_
  rintro e w2 ⟨rfl, r2, b2, s2⟩
  go_wp2_with fail
  refine (live_any w1.heap.size len head n F w2 hl s2 hh hn r2).mono ?_
  rintro e w3 ⟨rfl, r3, b3, s3⟩
  go_wp2_with fail
  refine (new_any w.heap.size len head n w3).mono ?_
  rintro e w4 ⟨rfl, r4, b4, s4⟩
  have t1 : w.heap.size < w3.heap.size := by have := b2.size; have := b3.size; omega
  have t2 : w2.heap.size < w3.heap.size := s3
  have z4 : Below w.heap.size w w4 := b1.trans ((b2.mono (by omega)).trans ((b3.mono (by omega)).trans (b4.mono (by omega))))
  have old4 : RowF w4 w2.heap.size n (fun i => F ((head + i) % len)) := r3.below b4 t2
  have buf4 : RowF w4 w.heap.size len F := ((r1.below b2 s1).below b3 (by omega)).below b4 t1
  clear r1 r2 r3 b1 b2 b3 b4 s1 s2 s3
  go_wp2_with fail
  have start : RingAt w4 w3.heap.size w.heap.size len ((head + 0) % len) (n - 0) := by simpa [Nat.mod_eq_of_lt hh] using r4
  clear r4
  go_loopw [12] (fun i wr => ∃ j : Nat, j ≤ k ∧ i = .int .i64 j ∧ RingAt wr w3.heap.size w.heap.size len ((head + j) % len) (n - j) ∧ Below w3.heap.size w4 wr) (fun i _ => k - (intOf i).toNat)
  case atStart => exact ⟨0, Nat.zero_le _, rfl, start, Below.refl _ _⟩
  case round =>
    obtain ⟨j, hj, rfl, hr, hbel⟩ := hrel
    by_cases hlt : j < k
    · have e1 : n - j = (n - (j + 1)) + 1 := by omega
      have e2 : ((head + j) % len + 1) % len = (head + (j + 1)) % len := by rw [Nat.mod_add_mod, Nat.add_assoc]
      rw [e1] at hr
      have hcall := zzpop_any w3.heap.size w.heap.size len ((head + j) % len) (n - (j + 1)) wr hr hl (Nat.mod_lt _ (by omega)) (by omega)
      rw [e2] at hcall
      have HC : Hid (Calls Try.prog 9 #[.pointer (some ⟨w3.heap.size, 0, none⟩)] wr fun e w' => e = .returned (.tuple #[]) ∧ RingAt w' w3.heap.size w.heap.size len ((head + (j + 1)) % len) (n - (j + 1)) ∧ Below w3.heap.size wr w') := hcall
      clear hcall e1 e2 hr
      go_wp2_with (go_at_call 9; refine HC.out.mono ?_; rintro e w5 ⟨rfl, hr5, hb5⟩)
      go_roundw
      case rel => exact ⟨j + 1, by omega, by go_num, hr5, hbel.trans hb5⟩
      case measure => simp [intOf]; omega
    · have hjk : j = k := by omega
      subst hjk
      have e1 : n - j = m := by omega
      rw [e1] at hr
      have hlm : (head + j) % len < len := Nat.mod_lt _ (by omega)
      obtain ⟨h, hh2⟩ : ∃ h, h = (head + j) % len := ⟨_, rfl⟩
      rw [← hh2] at hr hlm
      have HH : Hid (h = (head + j) % len) := hh2
      clear hh2 e1
      have hne : ((m : Int) != (n : Int) - (j : Int)) = false := by simp; omega
      have hlm' : (h : Int) < len := by omega
      have hsz : w3.heap.size < wr.heap.size := Nat.lt_of_lt_of_le s4 hbel.size
      go_wp2_with (first | (go_at_call 10; refine (head_any _ _ _ _ _ _ hr).mono ?_; rintro e w' ⟨rfl, rfl⟩) | (go_at_call 11; refine (n_any _ _ _ _ _ _ hr).mono ?_; rintro e w' ⟨rfl, rfl⟩) | (go_at_call 12; refine (buf_any _ _ _ _ _ _ hr).mono ?_; rintro e w' ⟨rfl, rfl⟩))
      refine (live_any w.heap.size len h m F wr hl (by omega) hlm (by omega) (buf4.below hbel t1)).mono ?_
      rintro e w6 ⟨rfl, r6, b6, s6⟩
      have old6 : RowF w6 w2.heap.size n (fun i => F ((head + i) % len)) := (old4.below hbel t2).below b6 (by omega)
      have z6 : Below w.heap.size w w6 := z4.trans ((hbel.mono (by omega)).trans (b6.mono (by omega)))
      clear old4 buf4 hbel b6 hr z4
      generalize wr.heap.size = B5 at *
      go_wp2_with fail
      go_loopw [17] (fun i wq => ∃ q : Nat, q ≤ m ∧ i = .int .i64 q ∧ Below w6.heap.size w6 wq) (fun i _ => m - (intOf i).toNat)
      case atStart => exact ⟨0, Nat.zero_le _, rfl, Below.refl _ _⟩
      case round =>
        obtain ⟨q, hq, rfl, hbq⟩ := hrel
        by_cases hqm : q < m
        · have c1 : wr.cell? ⟨B5, q, none⟩ = some (.float .f64 (F ((h + q) % len))) := (hbq.cell (by exact s6)).trans (r6 q hqm)
          have c2 : wr.cell? ⟨w2.heap.size, j + q, none⟩ = some (.float .f64 (F ((h + q) % len))) := by
            have := (hbq.cell (p := ⟨w2.heap.size, j + q, none⟩) (by show w2.heap.size < w6.heap.size; omega)).trans (old6 (j + q) (by omega))
            rw [HH.out, Nat.mod_add_mod, Nat.add_assoc]
            exact this
          generalize F ((h + q) % len) = x at c1 c2
          have g1 : IntKind.i64.wrap ((j : Int) + (q : Int)) = (j : Int) + (q : Int) := by rw [IntKind.wrap_i64]; omega
          have g2 : (0 : Int) ≤ (j : Int) + (q : Int) := by omega
          have g3 : (j : Int) + (q : Int) < (n : Int) := by omega
          have g4 : ((j : Int) + (q : Int)).toNat = j + q := by omega
          go_wp2_with fail
          go_region_held3 (fun w' => w'.cell? ⟨B5, q, none⟩ = some (.float .f64 x) ∧ w'.cell? ⟨w2.heap.size, j + q, none⟩ = some (.float .f64 x)) (go_keep) (first | (go_at_call 13; refine (eqf_any _ _).mono ?_; rintro e w' ⟨rfl, rfl⟩))
          all_goals go_wp2
          go_roundw
          case rel => exact ⟨q + 1, by omega, by go_num, hbq.drew⟩
          case measure => simp [intOf]; omega
        · go_wp2_with fail
          go_ret
          exact ⟨rfl, z6.trans (hbq.mono z6.size)⟩

end Go.Proofs.Qxb6613802a.Ring
