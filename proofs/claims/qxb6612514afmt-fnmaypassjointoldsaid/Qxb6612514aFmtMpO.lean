import Derived.Test.Qxb6612514aFmtMpN
namespace Go.Proofs.Qxb6612514aFmt.Mp
open Go.RowKit Go.Extern.Stop Go.Stop Go.Extern

set_option maxRecDepth 100000 in
set_option maxHeartbeats 1600000 in
theorem mpj_nn (F : Interp) (a0 a1 a2 : Addr) (d : Nat) (hd : d ≤ 255) (w : World) (hF : F.answers w.tape) (hs : Sents w a0 a1 a2) (hh : Short w a0 a1 a2) :
    Calls Tryf.prog 8 #[.int .u8 0, .int .u8 0, .int .u8 (d : Int)] w fun r w' => r = .returned (.bool (false || false)) ∧ Below w.heap.size w w' := by
  have HS : Hid (Sents w a0 a1 a2) := hs
  have HH : Hid (Short w a0 a1 a2) := hh
  have HF : Hid (F.answers w.tape) := hF
  clear hs hF hh
  go_enter Tryf.func8, Tryf.ntmps8
  go_wp2_with (first
    | (go_at_call 17; refine (kind_zero w).mono ?_; rintro r w1 ⟨rfl, rfl⟩)
    | (go_at_call 18; refine (join_nn w.heap.size (w.alloc (.cells #[.nilIface, .nilIface] 38)) (by simp) (by simp)).mono ?_; rintro r w3 ⟨rfl, b3⟩; obtain ⟨v, hv⟩ : ∃ v : Value, v = .nilIface := ⟨_, rfl⟩; have HB3 : Hid (Below w.heap.size w w3) := ((Below.refl _ _).alloc (Nat.le_refl _) _).trans (b3.mono (by simp)); have HJ : Hid (JV w3 a1 a2 v false false) := (by rw [hv]; exact jv_nil F w3 a1 a2 (by rw [HB3.out.tape]; exact HF.out)); rw [← hv]; clear b3 hv)
    | (go_at_call 16; refine (zzWrap_any F v d hd w3 (by rw [HB3.out.tape]; exact HF.out) HJ.out.2.1 HJ.out.1).mono ?_; rintro r w4 ⟨⟨u, rfl, hc⟩, b4⟩; have HB4 : Hid (Below w3.heap.size w3 w4) := b4; have HC : Hid (Chain w4 v d u) := hc; clear b4 hc)
    | (go_at_call 15; refine (mayPass_any u a1 a2 false false w4 ((HS.out.below HB3.out).below HB4.out).2.1.1 ((HS.out.below HB3.out).below HB4.out).2.2.1.1 (HJ.out.2.2 w4 d u HB4.out HC.out).1 (HJ.out.2.2 w4 d u HB4.out HC.out).2).mono ?_; rintro r w5 ⟨rfl, rfl⟩))
  go_ret
  exact ⟨rfl, HB3.out.trans (HB4.out.mono HB3.out.size)⟩

set_option maxRecDepth 100000 in
set_option maxHeartbeats 1600000 in
theorem mpj_xn (F : Interp) (a0 a1 a2 : Addr) (k : Int) (hk : k ≠ 0) (d : Nat) (hd : d ≤ 255) (w : World) (hF : F.answers w.tape) (hs : Sents w a0 a1 a2) (hh : Short w a0 a1 a2) :
    Calls Tryf.prog 8 #[.int .u8 k, .int .u8 0, .int .u8 (d : Int)] w fun r w' => r = .returned (.bool (decide (k = 1) || decide (k = 2))) ∧ Below w.heap.size w w' := by
  have HS : Hid (Sents w a0 a1 a2) := hs
  have HH : Hid (Short w a0 a1 a2) := hh
  have HF : Hid (F.answers w.tape) := hF
  clear hs hF hh
  go_enter Tryf.func8, Tryf.ntmps8
  go_wp2_with (first
    | (go_at_call 17; refine (kind_pos a0 a1 a2 k w HS.out HH.out hk).mono ?_; clear HH; rintro r w1 ⟨⟨a, rfl, he⟩, b1⟩; have HB1 : Hid (Below w.heap.size w w1) := b1; have HE : Hid (ErrAt w1 a1 a2 k a) := he; clear b1 he)
    | (go_at_call 17; refine (kind_zero w1).mono ?_; rintro r w2 ⟨rfl, rfl⟩)
    | (go_at_call 18; refine (join_xn w1.heap.size (.pointer (some a)) (w1.alloc (.cells #[.iface 74 (.pointer (some a)), .nilIface] 38)) (by simp) (by simp)).mono ?_; rintro r w3 ⟨⟨v, rfl, hj⟩, b3⟩; have HB2 : Hid (Below w1.heap.size w1 w3) := ((Below.refl _ _).alloc (Nat.le_refl _) _).trans (b3.mono (by simp)); have HB3 : Hid (Below w.heap.size w w3) := HB1.out.trans (HB2.out.mono HB1.out.size); have HJ : Hid (JV w3 a1 a2 v (decide (k = 1)) (decide (k = 2))) := jv_one F w3 a0 a1 a2 a k v (by rw [HB3.out.tape]; exact HF.out) (HS.out.below HB3.out) (HE.out.below HB2.out) hj; clear b3 hj)
    | (go_at_call 16; refine (zzWrap_any F v d hd w3 (by rw [HB3.out.tape]; exact HF.out) HJ.out.2.1 HJ.out.1).mono ?_; rintro r w4 ⟨⟨u, rfl, hc⟩, b4⟩; have HB4 : Hid (Below w3.heap.size w3 w4) := b4; have HC : Hid (Chain w4 v d u) := hc; clear b4 hc)
    | (go_at_call 15; refine (mayPass_any u a1 a2 (decide (k = 1)) (decide (k = 2)) w4 ((HS.out.below HB3.out).below HB4.out).2.1.1 ((HS.out.below HB3.out).below HB4.out).2.2.1.1 (HJ.out.2.2 w4 d u HB4.out HC.out).1 (HJ.out.2.2 w4 d u HB4.out HC.out).2).mono ?_; rintro r w5 ⟨rfl, rfl⟩))
  go_ret
  exact ⟨rfl, HB3.out.trans (HB4.out.mono HB3.out.size)⟩

set_option maxRecDepth 100000 in
set_option maxHeartbeats 1600000 in
theorem mpj_ny (F : Interp) (a0 a1 a2 : Addr) (q : Int) (hq : q ≠ 0) (d : Nat) (hd : d ≤ 255) (w : World) (hF : F.answers w.tape) (hs : Sents w a0 a1 a2) (hh : Short w a0 a1 a2) :
    Calls Tryf.prog 8 #[.int .u8 0, .int .u8 q, .int .u8 (d : Int)] w fun r w' => r = .returned (.bool (decide (q = 1) || decide (q = 2))) ∧ Below w.heap.size w w' := by
  have HS : Hid (Sents w a0 a1 a2) := hs
  have HH : Hid (Short w a0 a1 a2) := hh
  have HF : Hid (F.answers w.tape) := hF
  clear hs hF hh
  have M : Hid True := trivial
  go_enter Tryf.func8, Tryf.ntmps8
  go_wp2_with (first
    | (go_at_call 17; revert M; intro M; refine (kind_zero w).mono ?_; clear M; rintro r w1 ⟨rfl, rfl⟩)
    | (go_at_call 17; refine (kind_pos a0 a1 a2 q w HS.out HH.out hq).mono ?_; clear HH; rintro r w1 ⟨⟨a, rfl, he⟩, b1⟩; have HB1 : Hid (Below w.heap.size w w1) := b1; have HE : Hid (ErrAt w1 a1 a2 q a) := he; clear b1 he)
    | (go_at_call 18; refine (join_ny w1.heap.size (.pointer (some a)) (w1.alloc (.cells #[.nilIface, .iface 74 (.pointer (some a))] 38)) (by simp) (by simp)).mono ?_; rintro r w3 ⟨⟨v, rfl, hj⟩, b3⟩; have HB2 : Hid (Below w1.heap.size w1 w3) := ((Below.refl _ _).alloc (Nat.le_refl _) _).trans (b3.mono (by simp)); have HB3 : Hid (Below w.heap.size w w3) := HB1.out.trans (HB2.out.mono HB1.out.size); have HJ : Hid (JV w3 a1 a2 v (decide (q = 1)) (decide (q = 2))) := jv_one F w3 a0 a1 a2 a q v (by rw [HB3.out.tape]; exact HF.out) (HS.out.below HB3.out) (HE.out.below HB2.out) hj; clear b3 hj)
    | (go_at_call 16; refine (zzWrap_any F v d hd w3 (by rw [HB3.out.tape]; exact HF.out) HJ.out.2.1 HJ.out.1).mono ?_; rintro r w4 ⟨⟨u, rfl, hc⟩, b4⟩; have HB4 : Hid (Below w3.heap.size w3 w4) := b4; have HC : Hid (Chain w4 v d u) := hc; clear b4 hc)
    | (go_at_call 15; refine (mayPass_any u a1 a2 (decide (q = 1)) (decide (q = 2)) w4 ((HS.out.below HB3.out).below HB4.out).2.1.1 ((HS.out.below HB3.out).below HB4.out).2.2.1.1 (HJ.out.2.2 w4 d u HB4.out HC.out).1 (HJ.out.2.2 w4 d u HB4.out HC.out).2).mono ?_; rintro r w5 ⟨rfl, rfl⟩))
  go_ret
  exact ⟨rfl, HB3.out.trans (HB4.out.mono HB3.out.size)⟩

set_option maxRecDepth 100000 in
set_option maxHeartbeats 1600000 in
theorem mpj_xy (F : Interp) (a0 a1 a2 : Addr) (k : Int) (hk : k ≠ 0) (q : Int) (hq : q ≠ 0) (d : Nat) (hd : d ≤ 255) (w : World) (hF : F.answers w.tape) (hs : Sents w a0 a1 a2) (hh : Short w a0 a1 a2) :
    Calls Tryf.prog 8 #[.int .u8 k, .int .u8 q, .int .u8 (d : Int)] w fun r w' => r = .returned (.bool ((decide (k = 1) || decide (q = 1)) || (decide (k = 2) || decide (q = 2)))) ∧ Below w.heap.size w w' := by
  have HS : Hid (Sents w a0 a1 a2) := hs
  have HH : Hid (Short w a0 a1 a2) := hh
  have HF : Hid (F.answers w.tape) := hF
  clear hs hF hh
  go_enter Tryf.func8, Tryf.ntmps8
  go_wp2_with (first
    | (go_at_call 17; refine (kind_pos a0 a1 a2 k w HS.out HH.out hk).mono ?_; rintro r w1 ⟨⟨a, rfl, he⟩, b1⟩; have HB1 : Hid (Below w.heap.size w w1) := b1; have HE : Hid (ErrAt w1 a1 a2 k a) := he; have HH1 : Hid (Short w1 a0 a1 a2) := HH.out.below HS.out b1; clear b1 he HH)
    | (go_at_call 17; refine (kind_pos a0 a1 a2 q w1 (HS.out.below HB1.out) HH1.out hq).mono ?_; clear HH1; rintro r w2 ⟨⟨b, rfl, he⟩, b2⟩; have HB2 : Hid (Below w1.heap.size w1 w2) := b2; have HE' : Hid (ErrAt w2 a1 a2 q b) := he; clear b2 he)
    | (go_at_call 18; refine (join_xy w2.heap.size (.pointer (some a)) (.pointer (some b)) (w2.alloc (.cells #[.iface 74 (.pointer (some a)), .iface 74 (.pointer (some b))] 38)) (by simp) (by simp)).mono ?_; rintro r w3 ⟨⟨v, rfl, hj⟩, b3⟩; have HB2' : Hid (Below w2.heap.size w2 w3) := ((Below.refl _ _).alloc (Nat.le_refl _) _).trans (b3.mono (by simp)); have HB3 : Hid (Below w.heap.size w w3) := HB1.out.trans ((HB2.out.trans (HB2'.out.mono HB2.out.size)).mono HB1.out.size); have HJ : Hid (JV w3 a1 a2 v (decide (k = 1) || decide (q = 1)) (decide (k = 2) || decide (q = 2))) := jv_two F w3 a0 a1 a2 a b k q v (by rw [HB3.out.tape]; exact HF.out) (HS.out.below HB3.out) ((HE.out.below HB2.out).below HB2'.out) (HE'.out.below HB2'.out) hj; clear b3 hj)
    | (go_at_call 16; refine (zzWrap_any F v d hd w3 (by rw [HB3.out.tape]; exact HF.out) HJ.out.2.1 HJ.out.1).mono ?_; rintro r w4 ⟨⟨u, rfl, hc⟩, b4⟩; have HB4 : Hid (Below w3.heap.size w3 w4) := b4; have HC : Hid (Chain w4 v d u) := hc; clear b4 hc)
    | (go_at_call 15; refine (mayPass_any u a1 a2 (decide (k = 1) || decide (q = 1)) (decide (k = 2) || decide (q = 2)) w4 ((HS.out.below HB3.out).below HB4.out).2.1.1 ((HS.out.below HB3.out).below HB4.out).2.2.1.1 (HJ.out.2.2 w4 d u HB4.out HC.out).1 (HJ.out.2.2 w4 d u HB4.out HC.out).2).mono ?_; rintro r w5 ⟨rfl, rfl⟩))
  go_ret
  exact ⟨rfl, HB3.out.trans (HB4.out.mono HB3.out.size)⟩

theorem mpj_any (F : Interp) (a0 a1 a2 : Addr) (k q : Int) (d : Nat) (hd : d ≤ 255) (w : World) (hF : F.answers w.tape) (hs : Sents w a0 a1 a2) (hh : Short w a0 a1 a2) :
    Calls Tryf.prog 8 #[.int .u8 k, .int .u8 q, .int .u8 (d : Int)] w fun r w' => r = .returned (.bool ((decide (k = 1) || decide (k = 2)) || (decide (q = 1) || decide (q = 2)))) ∧ Below w.heap.size w w' := by
  have e : ((decide (k = 1) || decide (k = 2)) || (decide (q = 1) || decide (q = 2))) = ((decide (k = 1) || decide (q = 1)) || (decide (k = 2) || decide (q = 2))) := by
    cases decide (k = 1) <;> cases decide (k = 2) <;> cases decide (q = 1) <;> cases decide (q = 2) <;> rfl
  rw [e]
  by_cases hk : k = 0
  · subst hk
    by_cases hq : q = 0
    · subst hq
      exact mpj_nn F a0 a1 a2 d hd w hF hs hh
    · exact mpj_ny F a0 a1 a2 q hq d hd w hF hs hh
  · by_cases hq : q = 0
    · subst hq
      have e2 : ((decide (k = 1) || decide ((0 : Int) = 1)) || (decide (k = 2) || decide ((0 : Int) = 2))) = (decide (k = 1) || decide (k = 2)) := by simp
      rw [e2]
      exact mpj_xn F a0 a1 a2 k hk d hd w hF hs hh
    · exact mpj_xy F a0 a1 a2 k hk q hq d hd w hF hs hh

set_option maxRecDepth 100000 in
set_option maxHeartbeats 1600000 in
theorem join_any (F : Interp) (a0 a1 a2 : Addr) (k q : Int) (d : Nat) (hd : d ≤ 255) (w : World) (hF : F.answers w.tape) (hs : Sents w a0 a1 a2) (hh : Short w a0 a1 a2) :
    Calls Tryf.prog 4 #[.int .u8 k, .int .u8 q, .int .u8 (d : Int)] w fun r w' => r = .returned (.bool true) ∧ Below w.heap.size w w' := by
  have H8 : Hid (Calls Tryf.prog 8 #[.int .u8 k, .int .u8 q, .int .u8 (d : Int)] w fun r w' => r = .returned (.bool ((decide (k = 1) || decide (k = 2)) || (decide (q = 1) || decide (q = 2)))) ∧ Below w.heap.size w w') := mpj_any F a0 a1 a2 k q d hd w hF hs hh
  have H7 : Hid (∀ w, Calls Tryf.prog 7 #[.int .u8 k] w fun r w' => r = .returned (.bool (decide (k = 1) || decide (k = 2))) ∧ w = w') := fun w => retry_any k w
  have H7' : Hid (∀ w, Calls Tryf.prog 7 #[.int .u8 q] w fun r w' => r = .returned (.bool (decide (q = 1) || decide (q = 2))) ∧ w = w') := fun w => retry_any q w
  clear hs hF hh
  generalize (decide (k = 1) || decide (k = 2)) = x at *
  generalize (decide (q = 1) || decide (q = 2)) = y at *
  cases x
  · go_enter Tryf.func4, Tryf.ntmps4
    go_wp2_with (first
      | (go_at_call 8; refine H8.out.mono ?_; clear H8; rintro r w1 ⟨rfl, b1⟩; have HB1 : Hid (Below w.heap.size w w1) := b1; clear b1)
      | (go_at_call 7; refine (H7.out w1).mono ?_; clear H7; rintro r w3 ⟨rfl, rfl⟩)
      | (go_at_call 7; refine (H7'.out w1).mono ?_; rintro r w3 ⟨rfl, rfl⟩))
    go_ret
    exact ⟨by simp, HB1.out⟩
  · go_enter Tryf.func4, Tryf.ntmps4
    go_wp2_with (first
      | (go_at_call 8; refine H8.out.mono ?_; clear H8; rintro r w1 ⟨rfl, b1⟩; have HB1 : Hid (Below w.heap.size w w1) := b1; clear b1)
      | (go_at_call 7; refine (H7.out w1).mono ?_; clear H7; rintro r w3 ⟨rfl, rfl⟩))
    go_ret
    exact ⟨by simp, HB1.out⟩

end Go.Proofs.Qxb6612514aFmt.Mp
