import Derived.Test.Qxb6612514aFmtMpA
namespace Go.Proofs.Qxb6612514aFmt.Mp
open Go.RowKit Go.Extern.Stop Go.Stop Go.Extern

set_option maxHeartbeats 400000 in
theorem is0_other (a b : Addr) (ca cb : Array Value) (ta tb : TypeId) (w : World) (hne : a ≠ b) (ha : w.heap[a.block]? = some (.cells ca ta (0, 0))) (hb : w.heap[b.block]? = some (.cells cb tb (0, 0))) (d : Nat) (v : Value) (hc : Chain w (.iface 74 (.pointer (some a))) d v) :
    Calls Tryf.prog 26 #[v, .iface 74 (.pointer (some b)), .bool true] w fun e w' => e = .returned (.bool false) ∧ w = w' := by
  obtain ⟨i, hi, hcmp⟩ := Option.map_eq_some_iff.1 isComp
  obtain ⟨j, hj, hjs⟩ := Option.map_eq_some_iff.1 isSize
  have nE := noIsE
  have uE := noUnwrapE
  have vE := noUnwrapsE
  have nW := noIsW
  have uW := hasUnwrapW
  have mU := methodUnwrap
  have heq := run_eql_iface_ptr_other (P := Tryf.prog) w Tryf.underlying38 Tryf.underlying74 hi hcmp hj (by rw [hjs]; decide) hne ha hb
  have HC : Hid (Chain w (.iface 74 (.pointer (some a))) d v) := hc
  clear hc
  go_enter Tryf.func26, Tryf.ntmps26
  go_wp2
  go_loop [0] (fun x => ∃ k, k ≤ d ∧ Chain w (.iface 74 (.pointer (some a))) k x) (fun x => dep w d x)
  case atStart => exact ⟨d, Nat.le_refl _, HC.out⟩
  case round =>
    obtain ⟨k, hk, hx⟩ := hrel
    cases k with
    | zero =>
      obtain rfl : _ = _ := hx
      clear HC
      go_wp2
      go_ret
      exact ⟨rfl, rfl⟩
    | succ k =>
      obtain ⟨pb, u, s, rfl, h0, h1, hcu⟩ := hx
      have hty := run_eql_iface_types (P := Tryf.prog) 73 74 (.pointer (some ⟨pb, 0, none⟩)) (.pointer (some b)) Tryf.underlying38 (by decide) w
      obtain ⟨t, x, rfl⟩ := hcu.isIface
      have HK : Hid (Chain w (.iface 74 (.pointer (some a))) k (.iface t x)) := hcu
      have HD : Hid (dep w d (.iface 73 (.pointer (some ⟨pb, 0, none⟩))) = k + 1) := dep_chain (w := w) (e := .iface 74 (.pointer (some a))) rfl (k + 1) d _ ⟨pb, .iface t x, s, rfl, h0, h1, hcu⟩ hk
      have HE : Hid (dep w d (.iface t x) = k) := dep_chain (w := w) (e := .iface 74 (.pointer (some a))) rfl k d _ hcu (by omega)
      clear hcu HC
      go_wp2
      go_round
      case rel => exact ⟨k, by omega, HK.out⟩
      case measure =>
        show dep w d (.iface t x) < dep w d (.iface 73 (.pointer (some ⟨pb, 0, none⟩)))
        rw [HD.out, HE.out]
        omega

set_option maxHeartbeats 400000 in
theorem is0_same (a : Addr) (w : World) (d : Nat) (v : Value) (hc : Chain w (.iface 74 (.pointer (some a))) d v) :
    Calls Tryf.prog 26 #[v, .iface 74 (.pointer (some a)), .bool true] w fun e w' => e = .returned (.bool true) ∧ w = w' := by
  obtain ⟨i, hi, hcmp⟩ := Option.map_eq_some_iff.1 isComp
  obtain ⟨j, hj, hjs⟩ := Option.map_eq_some_iff.1 isSize
  have nE := noIsE
  have uE := noUnwrapE
  have vE := noUnwrapsE
  have nW := noIsW
  have uW := hasUnwrapW
  have mU := methodUnwrap
  have heq := run_eql_iface_ptr_same (P := Tryf.prog) w a Tryf.underlying38 Tryf.underlying74 hi hcmp hj
  have HC : Hid (Chain w (.iface 74 (.pointer (some a))) d v) := hc
  clear hc
  go_enter Tryf.func26, Tryf.ntmps26
  go_wp2
  go_loop [0] (fun x => ∃ k, k ≤ d ∧ Chain w (.iface 74 (.pointer (some a))) k x) (fun x => dep w d x)
  case atStart => exact ⟨d, Nat.le_refl _, HC.out⟩
  case round =>
    obtain ⟨k, hk, hx⟩ := hrel
    cases k with
    | zero =>
      obtain rfl : _ = _ := hx
      clear HC
      go_wp2
      go_ret
      exact ⟨rfl, rfl⟩
    | succ k =>
      obtain ⟨pb, u, s, rfl, h0, h1, hcu⟩ := hx
      have hty := run_eql_iface_types (P := Tryf.prog) 73 74 (.pointer (some ⟨pb, 0, none⟩)) (.pointer (some a)) Tryf.underlying38 (by decide) w
      obtain ⟨t, x, rfl⟩ := hcu.isIface
      have HK : Hid (Chain w (.iface 74 (.pointer (some a))) k (.iface t x)) := hcu
      have HD : Hid (dep w d (.iface 73 (.pointer (some ⟨pb, 0, none⟩))) = k + 1) := dep_chain (w := w) (e := .iface 74 (.pointer (some a))) rfl (k + 1) d _ ⟨pb, .iface t x, s, rfl, h0, h1, hcu⟩ hk
      have HE : Hid (dep w d (.iface t x) = k) := dep_chain (w := w) (e := .iface 74 (.pointer (some a))) rfl k d _ hcu (by omega)
      clear hcu HC
      go_wp2
      go_round
      case rel => exact ⟨k, by omega, HK.out⟩
      case measure =>
        show dep w d (.iface t x) < dep w d (.iface 73 (.pointer (some ⟨pb, 0, none⟩)))
        rw [HD.out, HE.out]
        omega

set_option maxHeartbeats 400000 in
theorem is0_nil (b : Addr) (w : World) (d : Nat) (v : Value) (hc : Chain w .nilIface (d + 1) v) :
    Calls Tryf.prog 26 #[v, .iface 74 (.pointer (some b)), .bool true] w fun e w' => e = .returned (.bool false) ∧ w = w' := by
  have nW := noIsW
  have uW := hasUnwrapW
  have mU := methodUnwrap
  have HC : Hid (Chain w .nilIface (d + 1) v) := hc
  clear hc
  go_enter Tryf.func26, Tryf.ntmps26
  go_wp2
  go_loop [0] (fun x => ∃ k, k ≤ d ∧ Chain w .nilIface (k + 1) x) (fun x => dep w (d + 1) x)
  case atStart => exact ⟨d, Nat.le_refl _, HC.out⟩
  case round =>
    obtain ⟨k, hk, hx⟩ := hrel
    cases k with
    | zero =>
      obtain ⟨pb, u, s, rfl, h0, h1, hcu⟩ := hx
      obtain rfl : u = .nilIface := hcu
      have hty := run_eql_iface_types (P := Tryf.prog) 73 74 (.pointer (some ⟨pb, 0, none⟩)) (.pointer (some b)) Tryf.underlying38 (by decide) w
      clear HC
      go_wp2
      go_ret
      exact ⟨rfl, rfl⟩
    | succ k =>
      obtain ⟨pb, u, s, rfl, h0, h1, hcu⟩ := hx
      have hty := run_eql_iface_types (P := Tryf.prog) 73 74 (.pointer (some ⟨pb, 0, none⟩)) (.pointer (some b)) Tryf.underlying38 (by decide) w
      have hcu' := hcu
      obtain ⟨qb, u', s', rfl, _⟩ := hcu'
      have HK : Hid (Chain w .nilIface (k + 1) (.iface 73 (.pointer (some ⟨qb, 0, none⟩)))) := hcu
      have HD : Hid (dep w (d + 1) (.iface 73 (.pointer (some ⟨pb, 0, none⟩))) = k + 2) := dep_chain (w := w) (e := .nilIface) rfl (k + 2) (d + 1) _ ⟨pb, _, s, rfl, h0, h1, hcu⟩ (by omega)
      have HE : Hid (dep w (d + 1) (.iface 73 (.pointer (some ⟨qb, 0, none⟩))) = k + 1) := dep_chain (w := w) (e := .nilIface) rfl (k + 1) (d + 1) _ hcu (by omega)
      clear hcu HC
      go_wp2
      go_round
      case rel => exact ⟨k, by omega, HK.out⟩
      case measure =>
        show dep w (d + 1) (.iface 73 (.pointer (some ⟨qb, 0, none⟩))) < dep w (d + 1) (.iface 73 (.pointer (some ⟨pb, 0, none⟩)))
        rw [HD.out, HE.out]
        omega

/-- errors.Is(v, the sentinel at b) answers r, in every world with the same memory. -/
def Ans (w : World) (v : Value) (b : Addr) (r : Bool) : Prop :=
  ∀ w' : World, w'.heap = w.heap → Calls Tryf.prog 20 #[v, .iface 74 (.pointer (some b))] w' fun e w'' => e = .returned (.bool r) ∧ w' = w''

set_option maxHeartbeats 400000 in
theorem is1_nil (b : Addr) (w : World) :
    Calls Tryf.prog 20 #[.nilIface, .iface 74 (.pointer (some b))] w fun e w' => e = .returned (.bool false) ∧ w = w' := by
  have hn := run_eql_iface_nil_left (P := Tryf.prog) w 74 (.pointer (some b)) Tryf.underlying38
  go_enter Tryf.func20, Tryf.ntmps20
  go_wp2
  go_ret
  exact ⟨rfl, rfl⟩

set_option maxHeartbeats 400000 in
theorem is1_any (t : TypeId) (x : Value) (b : Addr) (r : Bool) (w : World)
    (h : Hid (Calls Tryf.prog 26 #[.iface t x, .iface 74 (.pointer (some b)), .bool true] w fun e w' => e = .returned (.bool r) ∧ w = w')) :
    Calls Tryf.prog 20 #[.iface t x, .iface 74 (.pointer (some b))] w fun e w' => e = .returned (.bool r) ∧ w = w' := by
  have h8 := typ25
  have h32 := cmp72
  have mR := isMethodComparable
  go_enter Tryf.func20, Tryf.ntmps20
  go_wp2_with (first | (go_at_call 26; refine h.out.mono ?_; rintro e w' ⟨rfl, rfl⟩))
  go_ret
  exact ⟨rfl, rfl⟩

theorem Chain.heap {w w' : World} {e : Value} (hh : w'.heap = w.heap) : ∀ (d : Nat) (v : Value), Chain w e d v → Chain w' e d v
  | 0, _, h => h
  | d + 1, _, h => by
    obtain ⟨b, u, s, rfl, h0, h1, hc⟩ := h
    exact ⟨b, u, s, rfl, (World.cell?_of_block (by rw [hh])).trans h0, (World.cell?_of_block (by rw [hh])).trans h1, Chain.heap hh d u hc⟩

/-- A plain error of errors.New's make at a, or nil; ob: where it lies. -/
theorem ans_nil (b : Addr) (w : World) (d : Nat) (v : Value) (hc : Chain w .nilIface d v) : Ans w v b false := by
  intro w' hh
  cases d with
  | zero =>
    obtain rfl : v = _ := hc
    exact is1_nil b w'
  | succ d =>
    have hc' := hc.heap hh
    obtain ⟨p, u, s, rfl, _⟩ := hc
    exact is1_any _ _ b false w' (is0_nil b w' d _ hc')
theorem ans_err (a b : Addr) (ca cb : Array Value) (ta tb : TypeId) (w : World) (ha : w.heap[a.block]? = some (.cells ca ta (0, 0))) (hb : w.heap[b.block]? = some (.cells cb tb (0, 0))) (d : Nat) (v : Value) (hc : Chain w (.iface 74 (.pointer (some a))) d v) :
    Ans w v b (decide (a = b)) := by
  intro w' hh
  have hc' := hc.heap hh
  obtain ⟨t, x, rfl⟩ := hc.isIface
  by_cases hab : a = b
  · subst hab
    rw [decide_eq_true rfl]
    exact is1_any _ _ a true w' (is0_same a w' d _ hc')
  · rw [decide_eq_false hab]
    exact is1_any _ _ b false w' (is0_other a b ca cb ta tb w' hab (by rw [hh]; exact ha) (by rw [hh]; exact hb) d _ hc')

end Go.Proofs.Qxb6612514aFmt.Mp
