import Derived.Test.Qxb6612514aFmtMpE
namespace Go.Proofs.Qxb6612514aFmt.Mp
open Go.RowKit Go.Extern.Stop Go.Stop Go.Extern

set_option maxHeartbeats 800000 in
theorem mayPassOf_any (F : Interp) (a0 a1 a2 : Addr) (k : Int) (d : Nat) (hd : d ≤ 255) (w : World) (hF : F.answers w.tape) (hs : Sents w a0 a1 a2) :
    Calls Tryf.prog 6 #[.int .u8 k, .int .u8 (d : Int)] w fun r w' => r = .returned (.bool (decide (k = 1) || decide (k = 2))) ∧ Below w.heap.size w w' := by
  have HS : Hid (Sents w a0 a1 a2) := hs
  have HF : Hid (F.answers w.tape) := hF
  clear hs hF
  go_enter Tryf.func6, Tryf.ntmps6
  go_wp2_with (first
    | (go_at_call 17; refine (kind_any a0 a1 a2 k w HS.out).mono ?_; rintro r w1 ⟨⟨e, rfl, hb⟩, b1⟩; have HB1 : Hid (Below w.heap.size w w1) := b1; have HE : Hid (Base w1 a1 a2 k e) := hb; clear b1 hb)
    | (go_at_call 16; refine (zzWrap_any F e d hd w1 (by rw [HB1.out.tape]; exact HF.out) (HE.out.opnd (by rw [HB1.out.tape]; exact HF.out)) HE.out.ifc).mono ?_; rintro r w2 ⟨⟨v, rfl, hc⟩, b2⟩; have HB2 : Hid (Below w1.heap.size w1 w2) := b2; have HC : Hid (Chain w2 e d v) := hc; clear b2 hc)
    | (go_at_call 15; refine (mayPass_any v a1 a2 (decide (k = 1)) (decide (k = 2)) w2 ((HS.out.below HB1.out).below HB2.out).2.1.1 ((HS.out.below HB1.out).below HB2.out).2.2.1.1 ((HE.out.below HB2.out).ans ((HS.out.below HB1.out).below HB2.out) HC.out).1 ((HE.out.below HB2.out).ans ((HS.out.below HB1.out).below HB2.out) HC.out).2).mono ?_; rintro r w3 ⟨rfl, rfl⟩))
  go_ret
  exact ⟨rfl, HB1.out.trans (HB2.out.mono HB1.out.size)⟩

set_option maxHeartbeats 800000 in
theorem class_any (F : Interp) (a0 a1 a2 : Addr) (k : Int) (d : Nat) (hd : d ≤ 255) (w : World) (hF : F.answers w.tape) (hs : Sents w a0 a1 a2) :
    Calls Tryf.prog 3 #[.int .u8 k, .int .u8 (d : Int)] w fun r w' => r = .returned (.bool true) ∧ Below w.heap.size w w' := by
  have H6 : Hid (Calls Tryf.prog 6 #[.int .u8 k, .int .u8 (d : Int)] w fun r w' => r = .returned (.bool (decide (k = 1) || decide (k = 2))) ∧ Below w.heap.size w w') := mayPassOf_any F a0 a1 a2 k d hd w hF hs
  clear hs hF
  generalize hb : (decide (k = 1) || decide (k = 2)) = bb at *
  have H7 : Hid (∀ w, Calls Tryf.prog 7 #[.int .u8 k] w fun r w' => r = .returned (.bool bb) ∧ w = w') := fun w => by rw [← hb]; exact retry_any k w
  clear hb
  go_enter Tryf.func3, Tryf.ntmps3
  go_wp2_with (first
    | (go_at_call 6; refine H6.out.mono ?_; rintro r w1 ⟨rfl, b1⟩; have HB1 : Hid (Below w.heap.size w w1) := b1; clear b1)
    | (go_at_call 7; refine (H7.out _).mono ?_; rintro r w3 ⟨rfl, rfl⟩))
  go_ret
  exact ⟨by simp, HB1.out⟩

end Go.Proofs.Qxb6612514aFmt.Mp
