import Derived.Test.Qxb6609558aFmtClmE
namespace Go.Proofs.Qxb6609558aFmt.Clm
open Go.RowKit

/-- A bool was handed back. -/
def SomeBool (e : Ending) : Prop := ∃ q : Bool, e = .returned (.bool q)

set_option maxHeartbeats 1000000 in
theorem sum_any (a : Option Addr) (n c : Nat) (S : Nat → ByteArray) (t : Int) (w : World) (hn : n ≤ 4096) (h0 : 0 ≤ t) (h1 : t ≤ 1048576) (h : SR w a n S) :
    Calls Tryf.prog 16 #[.int .i64 t, .slice a n c] w fun e w' => ∃ z : Int, 0 ≤ z ∧ z ≤ 4194304 ∧ e = .returned (.int .i64 z) ∧ w = w' := by
  have HA : Hid (SR w a n S) := h
  clear h
  go_enter Tryf.func16, Tryf.ntmps16
  go_wp2
  go_loop [0, 5] (fun v i => ∃ (k : Nat) (z : Int), k ≤ n ∧ 0 ≤ z ∧ z ≤ 1048576 ∧ i = .int .i64 k ∧ v = .int .i64 z) (fun _ i => n - (intOf i).toNat)
  case atStart => exact ⟨0, t, Nat.zero_le _, h0, h1, rfl, rfl⟩
  case round =>
    obtain ⟨k, z, hk, z0, z1, rfl, rfl⟩ := hrel
    by_cases hlt : k < n
    · obtain ⟨b, o, rfl, hb, hc⟩ := HA.out.resolve_left (by omega)
      have d1 : w.cell? ⟨b, o + k, none⟩ = some (.string (S k)) := hc k hlt
      have i1 : (k : Int) < (n : Int) := by omega
      clear hc
      generalize S k = x at *
      by_cases g1 : x.size ≤ 1048576
      · by_cases g2 : z + (x.size : Int) ≤ 1048576
        · go_wp2
          go_round
          case rel => exact ⟨k + 1, _, by omega, by omega, g2, by go_num, rfl⟩
          case measure => simp [intOf]; omega
        · go_wp2
          go_ret
          exact ⟨_, by omega, by omega, rfl, rfl⟩
      · go_wp2
        go_ret
        exact ⟨_, by omega, by omega, rfl, rfl⟩
    · go_wp2
      go_ret
      exact ⟨_, z0, by omega, rfl, rfl⟩

set_option maxHeartbeats 1000000 in
theorem cbytes_any (a1 a2 a3 : Option Addr) (n1 c1 n2 c2 n3 c3 : Nat) (S V : Nat → ByteArray) (s : ByteArray) (w : World) (l1 : n1 ≤ 4096) (l2 : n2 ≤ 4096) (l3 : n3 ≤ 4096) (l4 : s.size ≤ 1048576)
    (h1 : SR w a1 n1 S) (h2 : SR w a2 n2 V) :
    Calls Tryf.prog 6 #[.slice a1 n1 c1, .slice a2 n2 c2, .slice a3 n3 c3, .string s] w fun e w' => (∃ z : Int, e = .returned (.int .i64 z)) ∧ w = w' := by
  by_cases g : 16 * (n1 : Int) + 16 * (n2 : Int) + (n3 : Int) + (s.size : Int) ≤ 1048576
  · go_enter Tryf.func6, Tryf.ntmps6
    go_wp2_with fail
    refine (sum_any a1 n1 c1 S _ w l1 (by omega) (by omega) h1).mono ?_
    rintro e w' ⟨z, z0, z1, rfl, rfl⟩
    by_cases g2 : z ≤ 1048576
    · go_wp2_with fail
      refine (sum_any a2 n2 c2 V _ w l2 z0 g2 h2).mono ?_
      rintro e w' ⟨z', z0', z1', rfl, rfl⟩
      go_wp2_with fail
      go_ret
      exact ⟨⟨_, rfl⟩, rfl⟩
    · go_wp2_with fail
      go_ret
      exact ⟨⟨_, rfl⟩, rfl⟩
  · go_enter Tryf.func6, Tryf.ntmps6
    go_wp2_with fail
    go_ret
    exact ⟨⟨_, rfl⟩, rfl⟩

set_option maxHeartbeats 4000000 in
theorem zzb15 (a1 a2 a3 : Option Addr) (n1 c1 n2 c2 n3 c3 : Nat) (S V : Nat → ByteArray) (s : ByteArray) (w : World) (l1 : n1 ≤ maxLen) (l2 : n2 ≤ maxLen) (l3 : n3 ≤ maxLen) (l4 : s.size ≤ maxLen)
    (h1 : SR w a1 n1 S) (h2 : SR w a2 n2 V) :
    Calls Tryf.prog 15 #[.slice a1 n1 c1, .slice a2 n2 c2, .slice a3 n3 c3, .string s] w fun e w' => SomeBool e ∧ w = w' := by
  unfold maxLen at l1 l2 l3 l4
  have HA : Hid (SR w a1 n1 S ∧ SR w a2 n2 V) := ⟨h1, h2⟩
  clear h1 h2
  by_cases g1 : n1 ≤ 1048576
  · go_enter Tryf.func15, Tryf.ntmps15
    go_wp2
    go_loop [9, 10] (fun v i => ∃ (k : Nat) (z : Int), k ≤ n1 ∧ 0 ≤ z ∧ z ≤ 1048576 ∧ i = .int .i64 k ∧ v = .int .i64 z) (fun _ i => n1 - (intOf i).toNat)
    case atStart => exact ⟨0, _, Nat.zero_le _, by omega, by omega, rfl, rfl⟩
    case round =>
      obtain ⟨k, z, hk, z0, z1, rfl, rfl⟩ := hrel
      by_cases hlt : k < n1
      · obtain ⟨b, o, rfl, hb, hc⟩ := HA.out.1.resolve_left (by omega)
        have d1 : w.cell? ⟨b, o + k, none⟩ = some (.string (S k)) := hc k hlt
        have i1 : (k : Int) < (n1 : Int) := by omega
        clear hc
        generalize S k = x at *
        by_cases g3 : x.size ≤ 1048576
        · by_cases g4 : z + (x.size : Int) ≤ 1048576
          · go_wp2
            go_round
            case rel => exact ⟨k + 1, _, by omega, by omega, g4, by go_num, rfl⟩
            case measure => simp [intOf]; omega
          · go_wp2
            go_ret
            exact ⟨⟨_, rfl⟩, rfl⟩
        · go_wp2
          go_ret
          exact ⟨⟨_, rfl⟩, rfl⟩
      · by_cases g2 : n2 ≤ 1048576
        · by_cases g5 : z + (n2 : Int) ≤ 1048576
          · go_wp2
            go_loop [9, 11] (fun v i => ∃ (k : Nat) (z : Int), k ≤ n2 ∧ 0 ≤ z ∧ z ≤ 1048576 ∧ i = .int .i64 k ∧ v = .int .i64 z) (fun _ i => n2 - (intOf i).toNat)
            case atStart => exact ⟨0, _, Nat.zero_le _, by omega, g5, rfl, rfl⟩
            case round =>
              clear z0 z1 g5
              obtain ⟨k, z, hk, z0, z1, rfl, rfl⟩ := hrel
              by_cases hlt : k < n2
              · obtain ⟨b, o, rfl, hb, hc⟩ := HA.out.2.resolve_left (by omega)
                have d1 : w.cell? ⟨b, o + k, none⟩ = some (.string (V k)) := hc k hlt
                have i1 : (k : Int) < (n2 : Int) := by omega
                clear hc
                generalize V k = x at *
                by_cases g3 : x.size ≤ 1048576
                · by_cases g4 : z + (x.size : Int) ≤ 1048576
                  · go_wp2
                    go_round
                    case rel => exact ⟨k + 1, _, by omega, by omega, g4, by go_num, rfl⟩
                    case measure => simp [intOf]; omega
                  · go_wp2
                    go_ret
                    exact ⟨⟨_, rfl⟩, rfl⟩
                · go_wp2
                  go_ret
                  exact ⟨⟨_, rfl⟩, rfl⟩
              · by_cases g6 : n3 ≤ 1048576
                · by_cases g7 : z + (n3 : Int) ≤ 1048576
                  · by_cases g8 : s.size ≤ 1048576
                    · by_cases g9 : z + (n3 : Int) + (s.size : Int) ≤ 1048576
                      all_goals
                        go_wp2
                        go_ret
                        exact ⟨⟨_, rfl⟩, rfl⟩
                    · go_wp2
                      go_ret
                      exact ⟨⟨_, rfl⟩, rfl⟩
                  · go_wp2
                    go_ret
                    exact ⟨⟨_, rfl⟩, rfl⟩
                · go_wp2
                  go_ret
                  exact ⟨⟨_, rfl⟩, rfl⟩
          · go_wp2
            go_ret
            exact ⟨⟨_, rfl⟩, rfl⟩
        · go_wp2
          go_ret
          exact ⟨⟨_, rfl⟩, rfl⟩
  · go_enter Tryf.func15, Tryf.ntmps15
    go_wp2
    go_ret
    exact ⟨⟨_, rfl⟩, rfl⟩

set_option maxHeartbeats 4000000 in
theorem zzb5 (a1 a2 a3 : Option Addr) (n1 c1 n2 c2 n3 c3 : Nat) (S V : Nat → ByteArray) (s : ByteArray) (req : Bool) (w : World) (l1 : n1 ≤ maxLen) (l2 : n2 ≤ maxLen) (l3 : n3 ≤ maxLen) (l4 : s.size ≤ maxLen)
    (h1 : SR w a1 n1 S) (h2 : SR w a2 n2 V) :
    Calls Tryf.prog 5 #[.slice a1 n1 c1, .slice a2 n2 c2, .slice a3 n3 c3, .string s, .bool req] w fun e w' => SomeBool e ∧ w = w' := by
  unfold maxLen at l1 l2 l3 l4
  have HA : Hid (SR w a1 n1 S ∧ SR w a2 n2 V) := ⟨h1, h2⟩
  clear h1 h2
  by_cases g1 : n1 ≤ 1048576
  · go_enter Tryf.func5, Tryf.ntmps5
    go_wp2
    go_loop [11, 12] (fun v i => ∃ (k : Nat) (z : Int), k ≤ n1 ∧ 0 ≤ z ∧ z ≤ 1048576 ∧ i = .int .i64 k ∧ v = .int .i64 z) (fun _ i => n1 - (intOf i).toNat)
    case atStart => exact ⟨0, _, Nat.zero_le _, by omega, by omega, rfl, rfl⟩
    case round =>
      obtain ⟨k, z, hk, z0, z1, rfl, rfl⟩ := hrel
      by_cases hlt : k < n1
      · obtain ⟨b, o, rfl, hb, hc⟩ := HA.out.1.resolve_left (by omega)
        have d1 : w.cell? ⟨b, o + k, none⟩ = some (.string (S k)) := hc k hlt
        have i1 : (k : Int) < (n1 : Int) := by omega
        clear hc
        generalize S k = x at *
        by_cases g3 : x.size ≤ 1048576
        · by_cases g4 : z + (x.size : Int) ≤ 1048576
          · go_wp2
            go_round
            case rel => exact ⟨k + 1, _, by omega, by omega, g4, by go_num, rfl⟩
            case measure => simp [intOf]; omega
          · go_wp2
            go_ret
            exact ⟨⟨_, rfl⟩, rfl⟩
        · go_wp2
          go_ret
          exact ⟨⟨_, rfl⟩, rfl⟩
      · by_cases g2 : n2 ≤ 1048576
        · by_cases g5 : z + (n2 : Int) ≤ 1048576
          · go_wp2
            go_loop [11, 13] (fun v i => ∃ (k : Nat) (z : Int), k ≤ n2 ∧ 0 ≤ z ∧ z ≤ 1048576 ∧ i = .int .i64 k ∧ v = .int .i64 z) (fun _ i => n2 - (intOf i).toNat)
            case atStart => exact ⟨0, _, Nat.zero_le _, by omega, g5, rfl, rfl⟩
            case round =>
              clear z0 z1 g5
              obtain ⟨k, z, hk, z0, z1, rfl, rfl⟩ := hrel
              by_cases hlt : k < n2
              · obtain ⟨b, o, rfl, hb, hc⟩ := HA.out.2.resolve_left (by omega)
                have d1 : w.cell? ⟨b, o + k, none⟩ = some (.string (V k)) := hc k hlt
                have i1 : (k : Int) < (n2 : Int) := by omega
                clear hc
                generalize V k = x at *
                by_cases g3 : x.size ≤ 1048576
                · by_cases g4 : z + (x.size : Int) ≤ 1048576
                  · go_wp2
                    go_round
                    case rel => exact ⟨k + 1, _, by omega, by omega, g4, by go_num, rfl⟩
                    case measure => simp [intOf]; omega
                  · go_wp2
                    go_ret
                    exact ⟨⟨_, rfl⟩, rfl⟩
                · go_wp2
                  go_ret
                  exact ⟨⟨_, rfl⟩, rfl⟩
              · by_cases g6 : n3 ≤ 1048576
                · by_cases g7 : z + (n3 : Int) ≤ 1048576
                  · by_cases g8 : s.size ≤ 1048576
                    · by_cases g9 : z + (n3 : Int) + (s.size : Int) ≤ 1048576
                      all_goals
                        go_wp2
                        go_ret
                        exact ⟨⟨_, rfl⟩, rfl⟩
                    · go_wp2
                      go_ret
                      exact ⟨⟨_, rfl⟩, rfl⟩
                  · go_wp2
                    go_ret
                    exact ⟨⟨_, rfl⟩, rfl⟩
                · go_wp2
                  go_ret
                  exact ⟨⟨_, rfl⟩, rfl⟩
          · go_wp2
            go_ret
            exact ⟨⟨_, rfl⟩, rfl⟩
        · go_wp2
          go_ret
          exact ⟨⟨_, rfl⟩, rfl⟩
  · go_enter Tryf.func5, Tryf.ntmps5
    go_wp2
    go_ret
    exact ⟨⟨_, rfl⟩, rfl⟩

end Go.Proofs.Qxb6609558aFmt.Clm
