import Derived.Test.Qxb6612514aFmtMpC
namespace Go.Proofs.Qxb6612514aFmt.Mp
open Go.RowKit Go.Extern.Stop Go.Stop Go.Extern

/-- fmt.Errorf("zz: %w", u) goes well, in every later world. -/
def Opnd (w : World) (u : Value) : Prop :=
  ∀ (w' : World) (b : Nat), Below w.heap.size w w' → w'.cell? ⟨b, 0, none⟩ = some u →
    Calls Tryf.prog 22 #[.string ⟨#[122, 122, 58, 32, 37, 119]⟩, .slice (some ⟨b, 0, none⟩) 1 1] w' fun e w'' => Wrapped w' w'' u e

theorem opnd_nil (F : Interp) (w : World) (hF : F.answers w.tape) : Opnd w .nilIface :=
  fun w' b hb hc => errorf_nil F b w' (by rw [hb.tape]; exact hF) hc
theorem opnd_err (F : Interp) (a : Addr) (s : ByteArray) (w : World) (hF : F.answers w.tape) (hs : w.cell? a = some (.string s)) : Opnd w (.iface 74 (.pointer (some a))) :=
  fun w' b hb hc => errorf_err F b a s w' (by rw [hb.tape]; exact hF) hc ((hb.cell (World.block_lt_of_cell? w a hs)).trans hs)

theorem opnd_chain (F : Interp) (w wr : World) (e v : Value) (k b : Nat) (hF : F.answers w.tape) (he : Opnd w e) (hb : Below w.heap.size w wr) (hc : Chain wr e k v) (hv : wr.cell? ⟨b, 0, none⟩ = some v) :
    Calls Tryf.prog 22 #[.string ⟨#[122, 122, 58, 32, 37, 119]⟩, .slice (some ⟨b, 0, none⟩) 1 1] wr fun e w'' => Wrapped wr w'' v e := by
  cases k with
  | zero =>
    obtain rfl : v = e := hc
    exact he wr b hb hv
  | succ k =>
    obtain ⟨p, u, s, rfl, h0, h1, hcu⟩ := hc
    exact errorf_wrap F b ⟨p, 0, none⟩ s wr (by rw [hb.tape]; exact hF) hv h0

/-- An interface value. -/
def Ifc (v : Value) : Prop := v = .nilIface ∨ ∃ t x, v = .iface t x
theorem Chain.ifc {w : World} {e v : Value} {d : Nat} (he : Ifc e) (h : Chain w e d v) : Ifc v := by
  cases d with
  | zero => obtain rfl : v = e := h; exact he
  | succ d => obtain ⟨b, u, s, rfl, _⟩ := h; exact .inr ⟨_, _, rfl⟩

set_option maxHeartbeats 1600000 in
theorem zzWrap_any (F : Interp) (e : Value) (d : Nat) (hd : d ≤ 255) (w : World) (hF : F.answers w.tape) (he : Opnd w e) (hi : Ifc e) :
    Calls Tryf.prog 16 #[e, .int .u8 (d : Int)] w fun r w' => (∃ v, r = .returned v ∧ Chain w' e d v) ∧ Below w.heap.size w w' := by
  have HO : Hid (Opnd w e) := he
  have HF : Hid (F.answers w.tape) := hF
  have HI : Hid (Ifc e) := hi
  clear he hF hi
  go_enter Tryf.func16, Tryf.ntmps16
  go_wp2
  go_loopw [0, 5] (fun v i wr => ∃ k : Nat, k ≤ d ∧ i = .int .u8 (k : Int) ∧ Chain wr e k v ∧ Below w.heap.size w wr) (fun _ i _ => d - (intOf i).toNat)
  case atStart => exact ⟨0, Nat.zero_le _, rfl, rfl, Below.refl _ _⟩
  case round =>
    rename_i wr
    obtain ⟨k, hk, rfl, hch, hbel⟩ := hrel
    obtain rfl | ⟨t, x, rfl⟩ := hch.ifc HI.out
    · have HB : Hid (Below w.heap.size w wr) := hbel
      have HB1 : Hid (Below wr.heap.size wr (wr.alloc (.cells #[.nilIface] 20))) := (Below.refl _ _).alloc (Nat.le_refl _) _
      have HC : Hid (Chain wr e k (.nilIface)) := hch
      have HX : Hid (Calls Tryf.prog 22 #[.string ⟨#[122, 122, 58, 32, 37, 119]⟩, .slice (some ⟨wr.heap.size, 0, none⟩) 1 1] (wr.alloc (.cells #[.nilIface] 20)) fun e w'' => Wrapped (wr.alloc (.cells #[.nilIface] 20)) w'' (.nilIface) e) :=
        opnd_chain F w (wr.alloc (.cells #[.nilIface] 20)) e (.nilIface) k wr.heap.size HF.out HO.out (hbel.alloc hbel.size _) (hch.below HB1.out) (by simp)
      clear hch hbel
      by_cases hlt : k < d
      · have hd1 : ((k : Int) < (d : Int)) := by omega
        have hw1 : IntKind.u8.wrap ((k : Int) + 1) = (k : Int) + 1 := by simp [IntKind.wrap, IntKind.bits, IntKind.signed]; omega
        go_wp2_with (first | (go_at_call 22; refine HX.out.mono ?_; rintro r w2 ⟨nb, s, rfl, c0, c1, b2⟩))
        go_roundw
        case rel =>
          have hb3 : Below wr.heap.size wr w2 := HB1.out.trans (b2.mono (by simp))
          refine ⟨k + 1, by omega, by go_num, ⟨nb, .nilIface, s, rfl, c0, c1, HC.out.below hb3⟩, HB.out.trans (hb3.mono HB.out.size)⟩
        case measure => simp [intOf]; omega
      · obtain rfl : k = d := by omega
        go_wp2
        go_ret
        exact ⟨⟨_, rfl, HC.out⟩, HB.out⟩
    · have HB : Hid (Below w.heap.size w wr) := hbel
      have HB1 : Hid (Below wr.heap.size wr (wr.alloc (.cells #[.iface t x] 20))) := (Below.refl _ _).alloc (Nat.le_refl _) _
      have HC : Hid (Chain wr e k (.iface t x)) := hch
      have HX : Hid (Calls Tryf.prog 22 #[.string ⟨#[122, 122, 58, 32, 37, 119]⟩, .slice (some ⟨wr.heap.size, 0, none⟩) 1 1] (wr.alloc (.cells #[.iface t x] 20)) fun e w'' => Wrapped (wr.alloc (.cells #[.iface t x] 20)) w'' (.iface t x) e) :=
        opnd_chain F w (wr.alloc (.cells #[.iface t x] 20)) e (.iface t x) k wr.heap.size HF.out HO.out (hbel.alloc hbel.size _) (hch.below HB1.out) (by simp)
      clear hch hbel
      by_cases hlt : k < d
      · have hd1 : ((k : Int) < (d : Int)) := by omega
        have hw1 : IntKind.u8.wrap ((k : Int) + 1) = (k : Int) + 1 := by simp [IntKind.wrap, IntKind.bits, IntKind.signed]; omega
        go_wp2_with (first | (go_at_call 22; refine HX.out.mono ?_; rintro r w2 ⟨nb, s, rfl, c0, c1, b2⟩))
        go_roundw
        case rel =>
          have hb3 : Below wr.heap.size wr w2 := HB1.out.trans (b2.mono (by simp))
          refine ⟨k + 1, by omega, by go_num, ⟨nb, .iface t x, s, rfl, c0, c1, HC.out.below hb3⟩, HB.out.trans (hb3.mono HB.out.size)⟩
        case measure => simp [intOf]; omega
      · obtain rfl : k = d := by omega
        go_wp2
        go_ret
        exact ⟨⟨_, rfl, HC.out⟩, HB.out⟩

end Go.Proofs.Qxb6612514aFmt.Mp
