import Derived.Test.Qxb6609558aFmtClmG
namespace Go.Proofs.Qxb6609558aFmt.Clm
open Go.RowKit

theorem lk_bld_isSome (n3 : Nat) (S V : Nat → ByteArray) (B : Nat → Bool) (k : Nat) (s : ByteArray) : (lk (bld n3 S V B k) s).isSome = true ↔ ∃ j, j < k ∧ S j = s := by
  induction k with
  | zero => simp [bld, lk]
  | succ k ih =>
    by_cases h : S k = s
    · rw [lk_bld_hit _ _ _ _ _ _ h]
      exact ⟨fun _ => ⟨k, by omega, h⟩, fun _ => rfl⟩
    · rw [lk_bld_miss _ _ _ _ _ _ h, ih]
      constructor
      · rintro ⟨j, hj, e⟩
        exact ⟨j, by omega, e⟩
      · rintro ⟨j, hj, e⟩
        by_cases hjk : j = k
        · subst hjk
          exact absurd e h
        · exact ⟨j, by omega, e⟩
theorem len_bld_seen (n3 : Nat) (S V : Nat → ByteArray) (B : Nat → Bool) (k j : Nat) (hj : j < k) (h : S j = S k) : (bld n3 S V B (k + 1)).length = (bld n3 S V B k).length := by
  simp only [bld]
  rw [length_upd, if_pos ((lk_bld_isSome n3 S V B k (S k)).2 ⟨j, hj, h⟩)]
  rfl
theorem len_bld_new (n3 : Nat) (S V : Nat → ByteArray) (B : Nat → Bool) (k : Nat) (h : ∀ j, j < k → S j ≠ S k) : (bld n3 S V B (k + 1)).length = (bld n3 S V B k).length + 1 := by
  simp only [bld]
  rw [length_upd, if_neg]
  intro q
  obtain ⟨j, hj, e⟩ := (lk_bld_isSome n3 S V B k (S k)).1 q
  exact h j hj e
theorem len_bld_le (n3 : Nat) (S V : Nat → ByteArray) (B : Nat → Bool) (k : Nat) : (bld n3 S V B k).length ≤ k := by
  induction k with
  | zero => exact Nat.le_refl _
  | succ k ih =>
    simp only [bld]
    rw [length_upd]
    split <;> omega

set_option maxHeartbeats 2000000 in
theorem distinct_any (a : Option Addr) (n1 c N n3 : Nat) (S V : Nat → ByteArray) (B : Nat → Bool) (w : World) (hN : N ≤ n1) (hn : n1 ≤ 4096) (h : SR w a n1 S) :
    Calls Tryf.prog 9 #[.slice a n1 c, .int .i64 (N : Int)] w fun e w' => e = .returned (.int .i64 ((bld n3 S V B N).length : Int)) ∧ Below w.heap.size w w' := by
  have HA : Hid (SR w a n1 S) := h
  clear h
  go_enter Tryf.func9, Tryf.ntmps9
  go_wp2
  go_loopw [5, 6] (fun v i wr => ∃ k : Nat, k ≤ N ∧ i = .int .i64 k ∧ v = .int .i64 ((bld n3 S V B k).length : Int) ∧ Below w.heap.size w wr) (fun _ i _ => N - (intOf i).toNat)
  case atStart => exact ⟨0, Nat.zero_le _, rfl, rfl, Below.refl _ _⟩
  case round =>
    obtain ⟨k, hk, rfl, rfl, hbel⟩ := hrel
    have hle := len_bld_le n3 S V B k
    by_cases hlt : k < N
    · obtain ⟨b, o, rfl, hbl, hc⟩ := HA.out.resolve_left (by omega)
      have HC : Hid (∀ j, j < n1 → w.cell? ⟨b, o + j, none⟩ = some (.string (S j))) := hc
      have HSN : Hid ((∀ j, j < k → S j = S k → (bld n3 S V B (k + 1)).length = (bld n3 S V B k).length) ∧ ((∀ j, j < k → S j ≠ S k) → (bld n3 S V B (k + 1)).length = (bld n3 S V B k).length + 1)) :=
        ⟨fun j hj e => len_bld_seen n3 S V B k j hj e, fun e => len_bld_new n3 S V B k e⟩
      clear hc
      generalize (bld n3 S V B k).length = len at *
      go_wp2
      go_loopw [7, 8] (fun sn i wr => ∃ q : Nat, q ≤ k ∧ i = .int .i64 q ∧ sn = .bool false ∧ (∀ j, j < q → S j ≠ S k) ∧ Below w.heap.size w wr) (fun _ i _ => k - (intOf i).toNat)
      case atStart => exact ⟨0, Nat.zero_le _, rfl, rfl, fun j hj => absurd hj (by omega), hbel⟩
      case round =>
        clear hbel
        obtain ⟨q, hq, rfl, rfl, hne, hbel⟩ := hrel
        have HNE : Hid (∀ j, j < q → S j ≠ S k) := hne
        clear hne
        by_cases hqk : q < k
        · have d1 : wr.cell? ⟨b, o + q, none⟩ = some (.string (S q)) := (hbel.cell (by exact hbl)).trans (HC.out q (by omega))
          have d2 : wr.cell? ⟨b, o + k, none⟩ = some (.string (S k)) := (hbel.cell (by exact hbl)).trans (HC.out k (by omega))
          have i1 : (q : Int) < (n1 : Int) := by omega
          have i2 : (k : Int) < (n1 : Int) := by omega
          by_cases he : S q = S k
          · have heq := eq_true he
            have HL : Hid ((bld n3 S V B (k + 1)).length = len) := HSN.out.1 q hqk he
            clear he
            go_wp2
            go_region_held3 (fun w' => w'.cell? ⟨b, o + q, none⟩ = some (.string (S q)) ∧ w'.cell? ⟨b, o + k, none⟩ = some (.string (S k))) (go_keep) (fail)
            go_wp2
            go_roundw
            case rel => exact ⟨k + 1, by omega, by go_num, by rw [HL.out], hbel.drew⟩
            case measure => simp [intOf]; omega
          · have heq := eq_false he
            have HE : Hid (S q ≠ S k) := he
            clear he
            go_wp2
            go_region_held3 (fun w' => w'.cell? ⟨b, o + q, none⟩ = some (.string (S q)) ∧ w'.cell? ⟨b, o + k, none⟩ = some (.string (S k))) (go_keep) (fail)
            go_wp2
            go_roundw
            case rel =>
              refine ⟨q + 1, by omega, by go_num, rfl, fun j hj => ?_, hbel.drew⟩
              by_cases hjq : j = q
              · subst hjq
                exact HE.out
              · exact HNE.out j (by omega)
            case measure => simp [intOf]; omega
        · have HL : Hid ((bld n3 S V B (k + 1)).length = len + 1) := HSN.out.2 (fun j hj => HNE.out j (by omega))
          go_wp2
          go_roundw
          case rel => exact ⟨k + 1, by omega, by go_num, by rw [HL.out]; go_num, hbel⟩
          case measure => simp [intOf]; omega
    · have hkN : k = N := by omega
      subst hkN
      go_wp2
      go_ret
      exact ⟨rfl, hbel⟩

end Go.Proofs.Qxb6609558aFmt.Clm
