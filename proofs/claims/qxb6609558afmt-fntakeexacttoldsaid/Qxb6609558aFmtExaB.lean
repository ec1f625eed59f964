import Derived.Test.Qxb6609558aFmtExaA
import Derived.Deep.DeepCutAuto
namespace Go.Proofs.Qxb6609558aFmt.Clm
open Go.RowKit Go.Extern.Stop Go.Stop Go.Extern

theorem zzget' (r m : Nat) (L : List (ByteArray × Value)) (fb : Bool) (s : ByteArray) (w : World) (hr : RdrAt w r m fb) (hm : MapAt w m L) (hh : HeldAll L) :
    Calls Tryf.prog 14 #[.pointer (some ⟨r, 0, none⟩), .string s] w fun e w' => e = .returned (.tuple #[.string (ansT L s), .bool (ansN L s), .bool (ansOk L s)]) ∧ w = w' := zzget r m L fb s w hr hm hh

set_option maxRecDepth 100000 in
set_option maxHeartbeats 8000000 in
theorem exact_in (F : Interp) (a1 a2 a3 : Option Addr) (n1 c1 n2 c2 n3 c3 : Nat) (S V : Nat → ByteArray) (B : Nat → Bool) (s : ByteArray) (req : Bool) (w : World) (hF : F.answers w.tape)
    (l1 : n1 ≤ 4096) (l2 : n2 ≤ 4096) (l3 : n3 ≤ 4096) (l4 : s.size ≤ 1048576)
    (h1 : SR w a1 n1 S) (h2 : SR w a2 n2 V) (h3 : BR w a3 n3 B) (z1 : a1 = none → n1 = 0) (z2 : a2 = none → n2 = 0) (z3 : a3 = none → n3 = 0) :
    Calls Tryf.prog 3 #[.slice a1 n1 c1, .slice a2 n2 c2, .slice a3 n3 c3, .string s, .bool req] w fun e w' => e = .returned (.bool true) ∧ Below w.heap.size w w' := by
  have HA : Hid (SR w a1 n1 S ∧ SR w a2 n2 V ∧ BR w a3 n3 B ∧ (a1 = none → n1 = 0) ∧ (a2 = none → n2 = 0) ∧ (a3 = none → n3 = 0)) := ⟨h1, h2, h3, z1, z2, z3⟩
  have HF : Hid (F.answers w.tape) := hF
  clear h1 h2 h3 z1 z2 z3 hF
  have hd1 : decide (4096 < (n1 : Int)) = false := by simp; omega
  have hd2 : decide (4096 < (n2 : Int)) = false := by simp; omega
  have hd3 : decide (4096 < (n3 : Int)) = false := by simp; omega
  have hd4 : decide (1048576 < (s.size : Int)) = false := by simp; omega
  have qs := q22
  have qb := q23
  have ms := fun w => make_str w n1 l1
  have ms2 := fun w => make_str w n2 l2
  have mb := fun w => make_bool w n3 l3
  go_enter Tryf.func3, Tryf.ntmps3
  go_upto_if 66 with (first | (go_at_call 5; refine (zzb5 a1 a2 a3 n1 c1 n2 c2 n3 c3 S V s req w (by unfold maxLen; omega) (by unfold maxLen; omega) (by unfold maxLen; omega) (by unfold maxLen; omega) HA.out.1 HA.out.2.1).mono ?_; rintro e w' ⟨⟨b, rfl⟩, rfl⟩) | (go_at_call 6; refine (cbytes_any a1 a2 a3 n1 c1 n2 c2 n3 c3 S V s w l1 l2 l3 l4 HA.out.1 HA.out.2.1).mono ?_; rintro e w' ⟨⟨z, rfl⟩, rfl⟩))
  · go_ret
    exact ⟨rfl, Below.refl _ _⟩
  · go_ret
    exact ⟨rfl, Below.refl _ _⟩
  clear hd1 hd2 hd3 hd4
  go_cut [0] from 34 (fun s0 wx => ∃ a c, s0 = .slice a n1 c ∧ SR wx a n1 S ∧ Below w.heap.size w wx)
  case first =>
    cases a1 with
    | none =>
      go_wp2
      go_meet
      exact ⟨none, c1, rfl, .inl (HA.out.2.2.2.1 (by first | rfl | trivial)), Below.refl _ _⟩
    | some x =>
      obtain ⟨w2, cp, hsr, hb⟩ := copy_str x n1 c1 S w HA.out.1
      go_wp2
      go_meet
      exact ⟨_, _, rfl, hsr, hb⟩
  case rest =>
    obtain ⟨a1', c1', rfl, hs1, hb1⟩ := hcut
    go_upto_if 75 with fail
    go_cut [1] from 34 (fun s0 wx => ∃ a c, s0 = .slice a n2 c ∧ SR wx a n2 V ∧ SR wx a1' n1 S ∧ Below w.heap.size w wx)
    case first =>
      have h2' : SR wc a2 n2 V := HA.out.2.1.below hb1
      cases a2 with
      | none =>
        go_wp2
        go_meet
        exact ⟨none, c2, rfl, .inl (HA.out.2.2.2.2.1 (by first | rfl | trivial)), hs1, hb1⟩
      | some x =>
        obtain ⟨w2, cp, hsr, hb⟩ := copy_str x n2 c2 V wc h2'
        go_wp2
        go_meet
        exact ⟨_, _, rfl, hsr, hs1.below hb, hb1.trans (hb.mono hb1.size)⟩
    case rest =>
      clear hs1 hb1
      obtain ⟨a2', c2', rfl, hs2, hs1, hb2⟩ := hcut
      go_upto_if 84 with fail
      go_cut [2] from 34 (fun s0 wx => ∃ a c, s0 = .slice a n3 c ∧ BR wx a n3 B ∧ SR wx a2' n2 V ∧ SR wx a1' n1 S ∧ Below w.heap.size w wx)
      case first =>
        have h3' : BR wc a3 n3 B := HA.out.2.2.1.below hb2
        cases a3 with
        | none =>
          go_wp2
          go_meet
          exact ⟨none, c3, rfl, .inl (HA.out.2.2.2.2.2 (by first | rfl | trivial)), hs2, hs1, hb2⟩
        | some x =>
          obtain ⟨w2, cp, hsr, hb⟩ := copy_bool x n3 c3 B wc h3'
          go_wp2
          go_meet
          exact ⟨_, _, rfl, hsr, hs2.below hb, hs1.below hb, hb2.trans (hb.mono hb2.size)⟩
      case rest =>
        clear hs1 hs2 hb2
        obtain ⟨a3', c3', rfl, hs3, hs2, hs1, hb3⟩ := hcut
        obtain ⟨N, hN⟩ : ∃ N, N = min n1 n2 := ⟨_, rfl⟩
        obtain ⟨L, hL⟩ : ∃ L, L = bld n3 S V B N := ⟨_, rfl⟩
        have HP : Hid (∀ W : World, Calls Tryf.prog 7 #[.slice a1' n1 c1', .slice a2' n2 c2'] W fun e w' => e = .returned (.int .i64 (N : Int)) ∧ W = w') := fun W => by rw [hN]; exact pairs_any a1' a2' n1 c1' n2 c2' W
        have HNW : Hid (Calls Tryf.prog 8 #[.slice a1' n1 c1', .slice a2' n2 c2', .slice a3' n3 c3'] wc fun e w' => ∃ r, e = .returned (.pointer (some ⟨r, 0, none⟩)) ∧ RdrAt w' r wc.heap.size false ∧ MapAt w' wc.heap.size L ∧ wc.heap.size < r ∧ Below wc.heap.size wc w') := by
          have := new_any a1' a2' a3' n1 c1' n2 c2' n3 c3' S V B wc l1 hs1 hs2 hs3
          rw [← hN, ← hL] at this
          exact this
        have HLK : Hid (∀ (W : World) (t : ByteArray), Below wc.heap.size wc W → Calls Tryf.prog 12 #[.slice a1' n1 c1', .slice a2' n2 c2', .slice a3' n3 c3', .string t] W fun e w' => e = .returned (.tuple #[.string (ansT L t), .bool (ansN L t), .bool (ansOk L t)]) ∧ W = w') := by
          intro W t hb
          have := lookup_any a1' a2' a3' n1 c1' n2 c2' n3 c3' S V B t W l1 (hs1.below hb) (hs2.below hb) (hs3.below hb)
          rw [← hN, ← hL] at this
          exact this
        have HH : Hid (HeldAll L ∧ nd L) := by rw [hL]; exact ⟨held_bld n3 S V B N, nd_bld n3 S V B N⟩
        have HN1 : Hid (N ≤ n1) := by show N ≤ n1; omega
        have HS1 : Hid (SR wc a1' n1 S) := hs1
        have hFc : F.answers wc.tape := by rw [hb3.tape]; exact HF.out
        have HFc : Hid (F.answers wc.tape) := hFc
        have HDI : Hid (∀ W : World, Below wc.heap.size wc W → Calls Tryf.prog 9 #[.slice a1' n1 c1', .int .i64 (N : Int)] W fun e w' => e = .returned (.int .i64 (L.length : Int)) ∧ Below W.heap.size W w') := by
          intro W hb
          have := distinct_any a1' n1 c1' N n3 S V B W (by omega) l1 (hs1.below hb)
          rw [← hL] at this
          exact this
        have HLE : Hid (L.length ≤ N) := by rw [hL]; exact len_bld_le n3 S V B N
        clear hL hN hs1 hs2 hs3 hFc
        go_wp2_with fail
        refine (HP.out wc).mono ?_
        rintro e w' ⟨rfl, rfl⟩
        go_wp2_with fail
        refine HNW.out.mono ?_
        rintro e w4 ⟨r, rfl, hr4, hm4, hrm, hb4⟩
        go_wp2_with fail
        refine (HDI.out w4 hb4).mono ?_
        rintro e w5 ⟨rfl, hb5⟩
        have hr5 : RdrAt w5 r wc.heap.size false := hr4.below hb5 (World.block_lt_of_cell? w4 ⟨r, 0, none⟩ hr4.1)
        have hm5 : MapAt w5 wc.heap.size L := hm4.below hb5 hm4.lt
        have b5 : Below wc.heap.size wc w5 := hb4.trans (hb5.mono hb4.size)
        clear hr4 hm4 hb4 hb5
        have HLi : Hid ((L.length : Int) ≤ 4096) := by show (L.length : Int) ≤ 4096; have := HLE.out; have := HN1.out; omega
        go_wp2_with (first | (go_at_call 10; refine (zzlen _ _ _ _ _ hr5 hm5).mono ?_; rintro e w' ⟨rfl, rfl⟩) | (go_at_call 11; refine (zzfailed _ _ _ _ hr5).mono ?_; rintro e w' ⟨rfl, rfl⟩) | (go_at_call 12; refine (HLK.out w5 s b5).mono ?_; rintro e w' ⟨rfl, rfl⟩))
        refine (zztake' F r wc.heap.size L false req s w5 (by rw [b5.tape]; exact HFc.out) hr5 hm5 hrm HH.out.1).mono ?_
        rintro e w6 ⟨rfl, hr6, hm6, hb6, hs6⟩
        have b6 : Below wc.heap.size wc w6 := b5.trans hb6
        clear hr5 hm5 hb6 hs6 b5
        have HD : Hid (HeldAll (del L s) ∧ nd (del L s)) := ⟨held_del HH.out.1 HH.out.2 s, nd_del L s HH.out.2⟩
        have HG : Hid (lk (del L s) s = none) := by show lk (del L s) s = none; rw [lk_del L s s HH.out.2, if_pos rfl]
        cases hok : ansOk L s with
        | true =>
          have hln : (((del L s).length : Int) != (L.length : Int) - 1) = false := by
            have e : (del L s).length = L.length - 1 := by rw [length_del, if_pos (show (lk L s).isSome = true from hok)]
            have hp : 0 < L.length := by
              cases L with
              | nil => simp [ansOk, lk] at hok
              | cons _ _ => simp
            simp
            omega
          simp only [hok, Bool.not_true, Bool.false_and, Bool.or_false] at hr6
          have hst : ansOk (del L s) s = false := by unfold ansOk; rw [HG.out]; rfl
          have hLi : (L.length : Int) ≤ 4096 := HLi.out
          go_wp2_with (first | (go_at_call 11; refine (zzfailed _ _ _ _ hr6).mono ?_; rintro e w' ⟨rfl, rfl⟩) | (go_at_call 14; refine (zzget' _ _ _ _ _ _ hr6 hm6 HD.out.1).mono ?_; rintro e w' ⟨rfl, rfl⟩) | (go_at_call 10; refine (zzlen _ _ _ _ _ hr6 hm6).mono ?_; rintro e w' ⟨rfl, rfl⟩))
          go_loop [27] (fun i => ∃ k : Nat, k ≤ N ∧ i = .int .i64 k) (fun i => N - (intOf i).toNat)
          case atStart => exact ⟨0, Nat.zero_le _, rfl⟩
          case round =>
            obtain ⟨k, hk, rfl⟩ := hrel
            by_cases hlt : k < N
            · obtain ⟨b, o, rfl, hbl, hc⟩ := HS1.out.resolve_left (by have := HN1.out; omega)
              have d0 : w6.cell? ⟨b, o + k, none⟩ = some (.string (S k)) := (b6.cell (by exact hbl)).trans (hc k (by have := HN1.out; omega))
              have i1 : (k : Int) < (n1 : Int) := by have := HN1.out; omega
              clear hc
              by_cases he : S k = s
              · have heq := eq_true he
                clear he
                go_wp2_with fail
                go_round
                case rel => exact ⟨k + 1, by omega, by go_num⟩
                case measure => simp [intOf]; omega
              · have heq := eq_false he
                have HT : Hid (lk (del L s) (S k) = lk L (S k)) := by show lk (del L s) (S k) = lk L (S k); rw [lk_del _ s (S k) HH.out.2, if_neg he]
                have HGT : Hid (Calls Tryf.prog 14 #[.pointer (some ⟨r, 0, none⟩), .string (S k)] w6 fun e w' => e = .returned (.tuple #[.string (ansT L (S k)), .bool (ansN L (S k)), .bool (ansOk L (S k))]) ∧ w6 = w') := by
                  have := zzget' r wc.heap.size (del L s) _ (S k) w6 hr6 hm6 HD.out.1
                  rw [(ans_of HT.out).1, (ans_of HT.out).2.1, (ans_of HT.out).2.2] at this
                  exact this
                clear he HT
                go_wp2_with (first | (go_at_call 14; refine HGT.out.mono ?_; rintro e w' ⟨rfl, rfl⟩) | (go_at_call 12; refine (HLK.out w6 (S k) b6).mono ?_; rintro e w' ⟨rfl, rfl⟩))
                go_round
                case rel => exact ⟨k + 1, by omega, by go_num⟩
                case measure => simp [intOf]; omega
            · go_wp2_with fail
              go_ret
              exact ⟨rfl, hb3.trans (b6.mono hb3.size)⟩
        | false =>
          have hln : (((del L s).length : Int) != (L.length : Int)) = false := by
            have e : (del L s).length = L.length := by
              rw [length_del, if_neg (by rw [show (lk L s).isSome = false from hok]; simp)]
              rfl
            simp
            omega
          simp only [hok, Bool.not_false, Bool.true_and, Bool.false_or] at hr6
          have hst : ansOk (del L s) s = false := by unfold ansOk; rw [HG.out]; rfl
          have hLi : (L.length : Int) ≤ 4096 := HLi.out
          go_wp2_with (first | (go_at_call 11; refine (zzfailed _ _ _ _ hr6).mono ?_; rintro e w' ⟨rfl, rfl⟩) | (go_at_call 14; refine (zzget' _ _ _ _ _ _ hr6 hm6 HD.out.1).mono ?_; rintro e w' ⟨rfl, rfl⟩) | (go_at_call 10; refine (zzlen _ _ _ _ _ hr6 hm6).mono ?_; rintro e w' ⟨rfl, rfl⟩))
          go_loop [27] (fun i => ∃ k : Nat, k ≤ N ∧ i = .int .i64 k) (fun i => N - (intOf i).toNat)
          case atStart => exact ⟨0, Nat.zero_le _, rfl⟩
          case round =>
            obtain ⟨k, hk, rfl⟩ := hrel
            by_cases hlt : k < N
            · obtain ⟨b, o, rfl, hbl, hc⟩ := HS1.out.resolve_left (by have := HN1.out; omega)
              have d0 : w6.cell? ⟨b, o + k, none⟩ = some (.string (S k)) := (b6.cell (by exact hbl)).trans (hc k (by have := HN1.out; omega))
              have i1 : (k : Int) < (n1 : Int) := by have := HN1.out; omega
              clear hc
              by_cases he : S k = s
              · have heq := eq_true he
                clear he
                go_wp2_with fail
                go_round
                case rel => exact ⟨k + 1, by omega, by go_num⟩
                case measure => simp [intOf]; omega
              · have heq := eq_false he
                have HT : Hid (lk (del L s) (S k) = lk L (S k)) := by show lk (del L s) (S k) = lk L (S k); rw [lk_del _ s (S k) HH.out.2, if_neg he]
                have HGT : Hid (Calls Tryf.prog 14 #[.pointer (some ⟨r, 0, none⟩), .string (S k)] w6 fun e w' => e = .returned (.tuple #[.string (ansT L (S k)), .bool (ansN L (S k)), .bool (ansOk L (S k))]) ∧ w6 = w') := by
                  have := zzget' r wc.heap.size (del L s) _ (S k) w6 hr6 hm6 HD.out.1
                  rw [(ans_of HT.out).1, (ans_of HT.out).2.1, (ans_of HT.out).2.2] at this
                  exact this
                clear he HT
                go_wp2_with (first | (go_at_call 14; refine HGT.out.mono ?_; rintro e w' ⟨rfl, rfl⟩) | (go_at_call 12; refine (HLK.out w6 (S k) b6).mono ?_; rintro e w' ⟨rfl, rfl⟩))
                go_round
                case rel => exact ⟨k + 1, by omega, by go_num⟩
                case measure => simp [intOf]; omega
            · go_wp2_with fail
              go_ret
              exact ⟨rfl, hb3.trans (b6.mono hb3.size)⟩

end Go.Proofs.Qxb6609558aFmt.Clm
