import Derived.Test.Qxb6612514aFmtMpJ
namespace Go.Proofs.Qxb6612514aFmt.Mp
open Go.RowKit Go.Extern.Stop Go.Stop Go.Extern

/-- errors.is(u, the sentinel at b, true) answers r. -/
def Ans0 (w : World) (u : Value) (b : Addr) (r : Bool) : Prop :=
  Calls Tryf.prog 26 #[u, .iface 74 (.pointer (some b)), .bool true] w fun e w' => e = .returned (.bool r) ∧ w = w'

set_option maxRecDepth 100000 in
set_option maxHeartbeats 1600000 in
theorem is0_join1 (b : Addr) (t1 : TypeId) (y1 : Value) (r1 : Bool) (w : World) (j jb : Nat) (hj : w.cell? ⟨j, 0, none⟩ = some (.slice (some ⟨jb, 0, none⟩) 1 1)) (hb0 : w.cell? ⟨jb, 0, none⟩ = some (.iface t1 y1)) (ha1 : Hid (Ans0 w (.iface t1 y1) b r1)) (d : Nat) (v : Value) (hc : Chain w (.iface 62 (.pointer (some ⟨j, 0, none⟩))) d v) :
    Calls Tryf.prog 26 #[v, .iface 74 (.pointer (some b)), .bool true] w fun e w' => e = .returned (.bool (r1)) ∧ w = w' := by
  have nW := noIsW
  have uW := hasUnwrapW
  have mU := methodUnwrap
  have nJ := noIsJ
  have uJ := noUnwrapJ
  have vJ := hasUnwrapsJ
  have mJ := methodUnwrapJ
  have htj := run_eql_iface_types (P := Tryf.prog) 62 74 (.pointer (some ⟨j, 0, none⟩)) (.pointer (some b)) Tryf.underlying38 (by decide) w
  have HC : Hid (Chain w (.iface 62 (.pointer (some ⟨j, 0, none⟩))) d v) := hc
  clear hc
  go_enter Tryf.func26, Tryf.ntmps26
  go_wp2
  go_loop [0] (fun x => ∃ k, k ≤ d ∧ Chain w (.iface 62 (.pointer (some ⟨j, 0, none⟩))) k x) (fun x => dep w d x)
  case atStart => exact ⟨d, Nat.le_refl _, HC.out⟩
  case round =>
    obtain ⟨k, hk, hx⟩ := hrel
    cases k with
    | zero =>
      obtain rfl : _ = _ := hx
      clear HC
      cases r1
      · go_wp2
        refine wp_loop_rounds 2 ?_
        rw [rounds_succ]
        go_wp2_with (first | (go_at_call 26; refine ha1.out.mono ?_; rintro e w' ⟨rfl, rfl⟩))
        rw [rounds_succ]
        go_wp2
        go_ret
        exact ⟨rfl, rfl⟩
      · go_wp2
        refine wp_loop_rounds 2 ?_
        rw [rounds_succ]
        go_wp2_with (first | (go_at_call 26; refine ha1.out.mono ?_; rintro e w' ⟨rfl, rfl⟩))
        go_ret
        exact ⟨rfl, rfl⟩
    | succ k =>
      obtain ⟨pb, u, s, rfl, h0, h1, hcu⟩ := hx
      have hty := run_eql_iface_types (P := Tryf.prog) 73 74 (.pointer (some ⟨pb, 0, none⟩)) (.pointer (some b)) Tryf.underlying38 (by decide) w
      obtain ⟨t, x, rfl⟩ := hcu.isIface
      have HK : Hid (Chain w (.iface 62 (.pointer (some ⟨j, 0, none⟩))) k (.iface t x)) := hcu
      have HD : Hid (dep w d (.iface 73 (.pointer (some ⟨pb, 0, none⟩))) = k + 1) := dep_chain (w := w) (e := .iface 62 (.pointer (some ⟨j, 0, none⟩))) rfl (k + 1) d _ ⟨pb, .iface t x, s, rfl, h0, h1, hcu⟩ hk
      have HE : Hid (dep w d (.iface t x) = k) := dep_chain (w := w) (e := .iface 62 (.pointer (some ⟨j, 0, none⟩))) rfl k d _ hcu (by omega)
      clear hcu HC
      go_wp2
      go_round
      case rel => exact ⟨k, by omega, HK.out⟩
      case measure =>
        show dep w d (.iface t x) < dep w d (.iface 73 (.pointer (some ⟨pb, 0, none⟩)))
        rw [HD.out, HE.out]
        omega

set_option maxRecDepth 100000 in
set_option maxHeartbeats 1600000 in
theorem is0_join2 (b : Addr) (t1 t2 : TypeId) (y1 y2 : Value) (r1 r2 : Bool) (w : World) (j jb : Nat) (hj : w.cell? ⟨j, 0, none⟩ = some (.slice (some ⟨jb, 0, none⟩) 2 2)) (hb0 : w.cell? ⟨jb, 0, none⟩ = some (.iface t1 y1)) (hb1 : w.cell? ⟨jb, 1, none⟩ = some (.iface t2 y2)) (ha1 : Hid (Ans0 w (.iface t1 y1) b r1)) (ha2 : Hid (Ans0 w (.iface t2 y2) b r2)) (d : Nat) (v : Value) (hc : Chain w (.iface 62 (.pointer (some ⟨j, 0, none⟩))) d v) :
    Calls Tryf.prog 26 #[v, .iface 74 (.pointer (some b)), .bool true] w fun e w' => e = .returned (.bool ((r1 || r2))) ∧ w = w' := by
  have nW := noIsW
  have uW := hasUnwrapW
  have mU := methodUnwrap
  have nJ := noIsJ
  have uJ := noUnwrapJ
  have vJ := hasUnwrapsJ
  have mJ := methodUnwrapJ
  have htj := run_eql_iface_types (P := Tryf.prog) 62 74 (.pointer (some ⟨j, 0, none⟩)) (.pointer (some b)) Tryf.underlying38 (by decide) w
  have HC : Hid (Chain w (.iface 62 (.pointer (some ⟨j, 0, none⟩))) d v) := hc
  clear hc
  go_enter Tryf.func26, Tryf.ntmps26
  go_wp2
  go_loop [0] (fun x => ∃ k, k ≤ d ∧ Chain w (.iface 62 (.pointer (some ⟨j, 0, none⟩))) k x) (fun x => dep w d x)
  case atStart => exact ⟨d, Nat.le_refl _, HC.out⟩
  case round =>
    obtain ⟨k, hk, hx⟩ := hrel
    cases k with
    | zero =>
      obtain rfl : _ = _ := hx
      clear HC
      cases r1
      · cases r2
        · go_wp2
          refine wp_loop_rounds 3 ?_
          rw [rounds_succ]
          go_wp2_with (first | (go_at_call 26; refine ha1.out.mono ?_; rintro e w' ⟨rfl, rfl⟩))
          rw [rounds_succ]
          go_wp2_with (first | (go_at_call 26; refine ha2.out.mono ?_; rintro e w' ⟨rfl, rfl⟩))
          rw [rounds_succ]
          go_wp2
          go_ret
          exact ⟨rfl, rfl⟩
        · go_wp2
          refine wp_loop_rounds 3 ?_
          rw [rounds_succ]
          go_wp2_with (first | (go_at_call 26; refine ha1.out.mono ?_; rintro e w' ⟨rfl, rfl⟩))
          rw [rounds_succ]
          go_wp2_with (first | (go_at_call 26; refine ha2.out.mono ?_; rintro e w' ⟨rfl, rfl⟩))
          go_ret
          exact ⟨rfl, rfl⟩
      · go_wp2
        refine wp_loop_rounds 3 ?_
        rw [rounds_succ]
        go_wp2_with (first | (go_at_call 26; refine ha1.out.mono ?_; rintro e w' ⟨rfl, rfl⟩))
        go_ret
        exact ⟨rfl, rfl⟩
    | succ k =>
      obtain ⟨pb, u, s, rfl, h0, h1, hcu⟩ := hx
      have hty := run_eql_iface_types (P := Tryf.prog) 73 74 (.pointer (some ⟨pb, 0, none⟩)) (.pointer (some b)) Tryf.underlying38 (by decide) w
      obtain ⟨t, x, rfl⟩ := hcu.isIface
      have HK : Hid (Chain w (.iface 62 (.pointer (some ⟨j, 0, none⟩))) k (.iface t x)) := hcu
      have HD : Hid (dep w d (.iface 73 (.pointer (some ⟨pb, 0, none⟩))) = k + 1) := dep_chain (w := w) (e := .iface 62 (.pointer (some ⟨j, 0, none⟩))) rfl (k + 1) d _ ⟨pb, .iface t x, s, rfl, h0, h1, hcu⟩ hk
      have HE : Hid (dep w d (.iface t x) = k) := dep_chain (w := w) (e := .iface 62 (.pointer (some ⟨j, 0, none⟩))) rfl k d _ hcu (by omega)
      clear hcu HC
      go_wp2
      go_round
      case rel => exact ⟨k, by omega, HK.out⟩
      case measure =>
        show dep w d (.iface t x) < dep w d (.iface 73 (.pointer (some ⟨pb, 0, none⟩)))
        rw [HD.out, HE.out]
        omega

end Go.Proofs.Qxb6612514aFmt.Mp
