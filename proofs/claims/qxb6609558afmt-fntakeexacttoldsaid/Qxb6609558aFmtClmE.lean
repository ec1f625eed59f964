import Derived.Test.Qxb6609558aFmtClmD
import Derived.Lib.SlicesS
namespace Go.Proofs.Qxb6609558aFmt.Clm
open Go.RowKit

theorem lk_bld_hit (n3 : Nat) (S V : Nat → ByteArray) (B : Nat → Bool) (j : Nat) (s : ByteArray) (h : S j = s) : lk (bld n3 S V B (j + 1)) s = some (val n3 V B j) := by
  simp only [bld]
  rw [lk_upd, if_pos h.symm]
theorem lk_bld_miss (n3 : Nat) (S V : Nat → ByteArray) (B : Nat → Bool) (j : Nat) (s : ByteArray) (h : S j ≠ s) : lk (bld n3 S V B (j + 1)) s = lk (bld n3 S V B j) s := by
  simp only [bld]
  rw [lk_upd, if_neg (Ne.symm h)]
theorem txt_val (n3 : Nat) (V : Nat → ByteArray) (B : Nat → Bool) (j : Nat) : txt (val n3 V B j) = V j := by
  unfold val; split <;> rfl
theorem num_val (n3 : Nat) (V : Nat → ByteArray) (B : Nat → Bool) (j : Nat) : num (val n3 V B j) = !isS n3 B j := by
  unfold val
  cases isS n3 B j <;> rfl
theorem held_val (n3 : Nat) (V : Nat → ByteArray) (B : Nat → Bool) (j : Nat) : Held (val n3 V B j) := by
  unfold val
  split
  · exact .inr ⟨_, .inl rfl⟩
  · exact .inr ⟨_, .inr rfl⟩
theorem held_bld (n3 : Nat) (S V : Nat → ByteArray) (B : Nat → Bool) (k : Nat) : HeldAll (bld n3 S V B k) := by
  induction k with
  | zero => exact fun s => .inl rfl
  | succ k ih =>
    intro s
    by_cases h : S k = s
    · rw [lk_bld_hit _ _ _ _ _ _ h]
      exact held_val n3 V B k
    · rw [lk_bld_miss _ _ _ _ _ _ h]
      exact ih s
theorem nd_bld (n3 : Nat) (S V : Nat → ByteArray) (B : Nat → Bool) (k : Nat) : nd (bld n3 S V B k) := by
  induction k with
  | zero => trivial
  | succ k ih => exact nd_upd _ _ _ ih
theorem held_del {L : List (ByteArray × Value)} (h : HeldAll L) (hn : nd L) (s : ByteArray) : HeldAll (del L s) := by
  intro t
  rw [lk_del L s t hn]
  split
  · exact .inl rfl
  · exact h t

set_option maxHeartbeats 400000 in
theorem pairs_any (a1 a2 : Option Addr) (n1 c1 n2 c2 : Nat) (w : World) :
    Calls Tryf.prog 7 #[.slice a1 n1 c1, .slice a2 n2 c2] w fun e w' => e = .returned (.int .i64 ((min n1 n2 : Nat) : Int)) ∧ w = w' := by
  by_cases h : n2 < n1
  · have e : min n1 n2 = n2 := by omega
    rw [e]
    go_enter Tryf.func7, Tryf.ntmps7
    go_wp2
    go_ret
    exact ⟨rfl, rfl⟩
  · have e : min n1 n2 = n1 := by omega
    rw [e]
    go_enter Tryf.func7, Tryf.ntmps7
    go_wp2
    go_ret
    exact ⟨rfl, rfl⟩

theorem eq_true {x s : ByteArray} (h : x = s) : (x.toList == s.toList) = true := (Lib.bytes_beq_iff x s).2 h
theorem eq_false {x s : ByteArray} (h : x ≠ s) : (x.toList == s.toList) = false := (Lib.bytes_beq_false_iff x s).2 h

/-- What claimLookup answers, out of the list. -/
def ansT (L : List (ByteArray × Value)) (s : ByteArray) : ByteArray := txt ((lk L s).getD .nilIface)
def ansN (L : List (ByteArray × Value)) (s : ByteArray) : Bool := num ((lk L s).getD .nilIface)
def ansOk (L : List (ByteArray × Value)) (s : ByteArray) : Bool := (lk L s).isSome
theorem ans_of {L L' : List (ByteArray × Value)} {s : ByteArray} (h : lk L s = lk L' s) : ansT L s = ansT L' s ∧ ansN L s = ansN L' s ∧ ansOk L s = ansOk L' s := by
  unfold ansT ansN ansOk
  rw [h]
  exact ⟨rfl, rfl, rfl⟩

theorem ret3 {a a' : ByteArray} {b b' c c' : Bool} (h1 : a = a') (h2 : b = b') (h3 : c = c') : Ending.returned (.tuple #[.string a, .bool b, .bool c]) = .returned (.tuple #[.string a', .bool b', .bool c']) := by rw [h1, h2, h3]

set_option maxHeartbeats 2000000 in
theorem lookup_any (a1 a2 a3 : Option Addr) (n1 c1 n2 c2 n3 c3 : Nat) (S V : Nat → ByteArray) (B : Nat → Bool) (s : ByteArray) (w : World) (l1 : n1 ≤ 4096)
    (h1 : SR w a1 n1 S) (h2 : SR w a2 n2 V) (h3 : BR w a3 n3 B) :
    Calls Tryf.prog 12 #[.slice a1 n1 c1, .slice a2 n2 c2, .slice a3 n3 c3, .string s] w fun e w' => e = .returned (.tuple #[.string (ansT (bld n3 S V B (min n1 n2)) s), .bool (ansN (bld n3 S V B (min n1 n2)) s), .bool (ansOk (bld n3 S V B (min n1 n2)) s)]) ∧ w = w' := by
  have HA : Hid (SR w a1 n1 S ∧ SR w a2 n2 V ∧ BR w a3 n3 B) := ⟨h1, h2, h3⟩
  clear h1 h2 h3
  obtain ⟨N, hN⟩ : ∃ N, N = min n1 n2 := ⟨_, rfl⟩
  rw [← hN]
  have hN1 : N ≤ n1 := by omega
  have hN2 : N ≤ n2 := by omega
  have HN : Hid (N = min n1 n2) := hN
  clear hN
  go_enter Tryf.func12, Tryf.ntmps12
  go_wp2_with (go_at_call 7; refine (pairs_any _ _ _ _ _ _ _).mono ?_; rw [← HN.out]; rintro e w' ⟨rfl, rfl⟩)
  go_loop [12] (fun i => ∃ k : Nat, k ≤ N ∧ i = .int .i64 ((k : Int) - 1) ∧ lk (bld n3 S V B N) s = lk (bld n3 S V B k) s) (fun i => (intOf i + 1).toNat)
  case atStart => exact ⟨N, Nat.le_refl _, rfl, rfl⟩
  case round =>
    obtain ⟨k, hk, rfl, hlk⟩ := hrel
    have HL : Hid (lk (bld n3 S V B N) s = lk (bld n3 S V B k) s) := hlk
    clear hlk
    cases k with
    | zero =>
      go_wp2
      go_ret3
      obtain ⟨q1, q2, q3⟩ := ans_of HL.out
      exact ⟨ret3 (by rw [q1]; rfl) (by rw [q2]; rfl) (by rw [q3]; rfl), rfl⟩
    | succ j =>
      rw [show ((j + 1 : Nat) : Int) - 1 = (j : Int) by omega]
      obtain ⟨H1, H2, H3⟩ := HA.out
      obtain ⟨b1, o1, rfl, hb1, hc1⟩ := H1.resolve_left (by omega)
      obtain ⟨b2, o2, rfl, hb2, hc2⟩ := H2.resolve_left (by omega)
      have d1 : w.cell? ⟨b1, o1 + j, none⟩ = some (.string (S j)) := hc1 j (by omega)
      have d2 : w.cell? ⟨b2, o2 + j, none⟩ = some (.string (V j)) := hc2 j (by omega)
      have i1 : (j : Int) < (n1 : Int) := by omega
      have i2 : (j : Int) < (n2 : Int) := by omega
      clear H1 H2 hc1 hc2
      by_cases hs : S j = s
      · have he := eq_true hs
        have hit := lk_bld_hit n3 S V B j s hs
        obtain ⟨q1, q2, q3⟩ := ans_of HL.out
        have r1 : ansT (bld n3 S V B (j + 1)) s = V j := by unfold ansT; rw [hit]; exact txt_val n3 V B j
        have r2 : ansN (bld n3 S V B (j + 1)) s = !isS n3 B j := by unfold ansN; rw [hit]; exact num_val n3 V B j
        have r3 : ansOk (bld n3 S V B (j + 1)) s = true := by unfold ansOk; rw [hit]; rfl
        have HR : Hid (ansT (bld n3 S V B N) s = V j ∧ ansN (bld n3 S V B N) s = (!isS n3 B j) ∧ ansOk (bld n3 S V B N) s = true) := ⟨q1.trans r1, q2.trans r2, q3.trans r3⟩
        clear q1 q2 q3 r1 r2 r3 hit hs
        by_cases hlt3 : j < n3
        · obtain ⟨b3, o3, rfl, hb3, hc3⟩ := H3.resolve_left (by omega)
          have d3 : w.cell? ⟨b3, o3 + j, none⟩ = some (.bool (B j)) := hc3 j hlt3
          have i3 : (j : Int) < (n3 : Int) := by omega
          have HB : Hid (isS n3 B j = B j) := by show isS n3 B j = B j; simp [isS, hlt3]
          clear H3 hc3
          go_wp2
          go_ret3
          exact ⟨ret3 HR.out.1.symm (by rw [HR.out.2.1, HB.out]) HR.out.2.2.symm, rfl⟩
        · have i3 : decide ((j : Int) < (n3 : Int)) = false := by simp; omega
          have HB : Hid (isS n3 B j = false) := by show isS n3 B j = false; simp [isS, hlt3]
          clear H3
          go_wp2
          go_ret3
          exact ⟨ret3 HR.out.1.symm (by rw [HR.out.2.1, HB.out]; rfl) HR.out.2.2.symm, rfl⟩
      · have he := eq_false hs
        have HM : Hid (lk (bld n3 S V B (j + 1)) s = lk (bld n3 S V B j) s) := lk_bld_miss n3 S V B j s hs
        clear hs H3
        go_wp2
        go_round
        case rel => exact ⟨j, by omega, rfl, HL.out.trans HM.out⟩
        case measure => simp [intOf]

end Go.Proofs.Qxb6609558aFmt.Clm
