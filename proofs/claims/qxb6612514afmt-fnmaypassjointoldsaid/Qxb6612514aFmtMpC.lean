import Derived.Test.Qxb6612514aFmtMpB
import Derived.Stop.CallBack
import Derived.Stop.IfaceNil
import GoSem.ClaimData
namespace Go.Proofs.Qxb6612514aFmt.Mp
open Go.RowKit Go.Extern.Stop Go.Stop Go.Extern

set_option maxHeartbeats 400000 in
theorem mayPass_any (v : Value) (b1 b2 : Addr) (r1 r2 : Bool) (w : World) (hg1 : w.cell? ⟨1, 0, none⟩ = some (.iface 74 (.pointer (some b1)))) (hg2 : w.cell? ⟨2, 0, none⟩ = some (.iface 74 (.pointer (some b2))))
    (h1 : Hid (Ans w v b1 r1)) (h2 : Hid (Ans w v b2 r2)) :
    Calls Tryf.prog 15 #[v] w fun e w' => e = .returned (.bool (r1 || r2)) ∧ w = w' := by
  have g1 : Hid (Calls Tryf.prog 20 #[v, .iface 74 (.pointer (some b1))] w fun e w'' => e = .returned (.bool r1) ∧ w = w'') := h1.out w rfl
  have g2 : Hid (Calls Tryf.prog 20 #[v, .iface 74 (.pointer (some b2))] w fun e w'' => e = .returned (.bool r2) ∧ w = w'') := h2.out w rfl
  clear h1 h2
  cases r1
  · go_enter Tryf.func15, Tryf.ntmps15
    go_wp2_with (first | (go_at_call 20; refine g1.out.mono ?_; clear g1; rintro e w' ⟨rfl, rfl⟩) | (go_at_call 20; refine g2.out.mono ?_; rintro e w' ⟨rfl, rfl⟩))
    go_ret
    exact ⟨rfl, rfl⟩
  · go_enter Tryf.func15, Tryf.ntmps15
    go_wp2_with (first | (go_at_call 20; refine g1.out.mono ?_; rintro e w' ⟨rfl, rfl⟩))
    go_ret
    exact ⟨rfl, rfl⟩

/-! ### fmt.Errorf("zz: %w", err) -/
theorem call27 (args : Array Value) (w : World) : (callFunc 27 args).run Tryf.prog w = (FmtCalls.errorf #[9, 72] #[38] args).run Tryf.prog w :=
  run_callFunc_next Tryf.func27 (by kernel_rfl) (by kernel_rfl) (by kernel_rfl) args w
theorem nextTurns : Extern.next FmtCalls.turnsRow = some (FmtCalls.begun #[] #[]) := by kernel_rfl
theorem nextReturned : Extern.next FmtCalls.returnedRow = some (FmtCalls.returned #[] #[]) := by kernel_rfl
theorem fguard (name : String) (w : World) : (FmtStop.guard name).run Tryf.prog w = .ok () w := by kernel_rfl
theorem fmt0 : FmtStop.printed? ⟨#[122, 122, 58, 32, 37, 119]⟩ 1 = some [(0, 119, false)] := by kernel_rfl
theorem fmt0r (w : World) : (FmtDoors.printed ⟨#[122, 122, 58, 32, 37, 119]⟩ 1).run Tryf.prog w = .ok [(0, 119, false)] w := by kernel_rfl
theorem ptr74 (w : World) : (FmtStop.ptrTo "errors.errorString").run Tryf.prog w = .ok 74 w := by kernel_rfl
theorem elem74 (w : World) : (elemOf 74).run Tryf.prog w = .ok 76 w := by kernel_rfl
theorem ptr73 (w : World) : (FmtStop.ptrTo "fmt.wrapError").run Tryf.prog w = .ok 73 w := by kernel_rfl
theorem elem73 (w : World) : (elemOf 73).run Tryf.prog w = .ok 131 w := by kernel_rfl
theorem isError74 (w : World) : (FmtDoors.textMethod 74 "Error").run Tryf.prog w = .ok true w := by kernel_rfl
theorem isError73 (w : World) : (FmtDoors.textMethod 73 "Error").run Tryf.prog w = .ok true w := by kernel_rfl
theorem isError62 (w : World) : (FmtDoors.textMethod 62 "Error").run Tryf.prog w = .ok true w := by kernel_rfl
theorem actNil (name : String) (w : World) : (FmtCalls.act name true 119 false .nilIface).run Tryf.prog w = .ok (.closed true) w := by kernel_rfl
theorem act74 (name : String) (x : Value) (w : World) : (FmtCalls.act name true 119 false (.iface 74 x)).run Tryf.prog w = .ok (.closed true) w := by kernel_rfl
theorem act73 (name : String) (x : Value) (w : World) : (FmtCalls.act name true 119 false (.iface 73 x)).run Tryf.prog w = .ok (.closed true) w := by kernel_rfl
theorem act62 (name : String) (x : Value) (w : World) : (FmtCalls.act name true 119 false (.iface 62 x)).run Tryf.prog w = .ok (.call true) w := by kernel_rfl
theorem invoke62 (x : Value) (w : World) : (invoke (.fn (.method "Error") #[]) #[.iface 62 x]).run Tryf.prog w = .ok (.enter 64 #[x]) w := by kernel_rfl
theorem opNil (name : String) (w : World) : (FmtStop.operand name true 119 false .nilIface).run Tryf.prog w = .ok ([0], []) w := by kernel_rfl
def plain74 : List UInt8 := 14 :: FmtStop.pack "*errors.errorString".toUTF8.data.toList
def plain73 : List UInt8 := 14 :: FmtStop.pack "*fmt.wrapError".toUTF8.data.toList
theorem op74 (name : String) (a : Addr) (s : ByteArray) (w : World) (hc : w.cell? a = some (.string s)) :
    (FmtStop.operand name true 119 false (.iface 74 (.pointer (some a)))).run Tryf.prog w = .ok (plain74, s.data.toList) w := by
  have h1 : (typeStr 74).run Tryf.prog w = .ok "*errors.errorString" w := by kernel_rfl
  have d2 : Tryf.t74.desc = .pointer 76 := rfl
  have d3 : Tryf.t76.desc = .named "errors.errorString" 75 := rfl
  simp [FmtStop.operand, h1, d2, d3, run_load, hc, plain74]
theorem op73 (name : String) (a : Addr) (s : ByteArray) (w : World) (hc : w.cell? a = some (.string s)) :
    (FmtStop.operand name true 119 false (.iface 73 (.pointer (some a)))).run Tryf.prog w = .ok (plain73, s.data.toList) w := by
  have h1 : (typeStr 73).run Tryf.prog w = .ok "*fmt.wrapError" w := by kernel_rfl
  have d2 : Tryf.t73.desc = .pointer 131 := rfl
  have d3 : Tryf.t131.desc = .named "fmt.wrapError" 130 := rfl
  simp [FmtStop.operand, h1, d2, d3, run_load, hc, plain73]

attribute [local go_sem] call27 fguard fmt0 fmt0r ptr74 elem74 ptr73 elem73 isError74 isError73 isError62 actNil act74 act73 act62 opNil

/-- What Errorf hands back: a new *fmt.wrapError round u. -/
def Wrapped (w w' : World) (u : Value) (e : Ending) : Prop :=
  ∃ (nb : Nat) (s : ByteArray), e = .returned (.iface 73 (.pointer (some ⟨nb, 0, none⟩))) ∧ w'.cell? ⟨nb, 0, none⟩ = some (.string s) ∧ w'.cell? ⟨nb, 1, none⟩ = some u ∧ Below w.heap.size w w'

theorem wrapped_mk (w : World) (s : ByteArray) (u : Value) : Wrapped w ((w.alloc (.cells #[.string s, u] 131)).drew) u (.returned (.iface 73 (.pointer (some ⟨w.heap.size, 0, none⟩)))) := by
  refine ⟨w.heap.size, s, rfl, ?_, ?_, ((Below.refl _ _).alloc (Nat.le_refl _) _).drew⟩
  · go_simp
  · go_simp

set_option maxHeartbeats 400000 in
theorem errorf_nil (F : Interp) (b : Nat) (w : World) (hF : F.answers w.tape) (hc : w.cell? ⟨b, 0, none⟩ = some .nilIface) :
    Calls Tryf.prog 22 #[.string ⟨#[122, 122, 58, 32, 37, 119]⟩, .slice (some ⟨b, 0, none⟩) 1 1] w fun e w' => Wrapped w w' .nilIface e := by
  have hF' := answers_open hF
  go_enter Tryf.func22, Tryf.ntmps22
  go_wp2
  apply rows_value nextTurns
  case hr =>
    go_simp
    exact ⟨rfl, rfl⟩
  case h =>
    go_wp2
    go_ret
    exact wrapped_mk _ _ _

set_option maxHeartbeats 400000 in
theorem errorf_err (F : Interp) (b : Nat) (a : Addr) (s : ByteArray) (w : World) (hF : F.answers w.tape) (hc : w.cell? ⟨b, 0, none⟩ = some (.iface 74 (.pointer (some a)))) (hs : w.cell? a = some (.string s)) :
    Calls Tryf.prog 22 #[.string ⟨#[122, 122, 58, 32, 37, 119]⟩, .slice (some ⟨b, 0, none⟩) 1 1] w fun e w' => Wrapped w w' (.iface 74 (.pointer (some a))) e := by
  have hF' := answers_open hF
  have hop := op74 "fmt.errorf" a s w hs
  go_enter Tryf.func22, Tryf.ntmps22
  go_wp2
  apply rows_value nextTurns
  case hr =>
    go_simp
    exact ⟨rfl, rfl⟩
  case h =>
    go_wp2
    go_ret
    exact wrapped_mk _ _ _

set_option maxHeartbeats 400000 in
theorem errorf_wrap (F : Interp) (b : Nat) (a : Addr) (s : ByteArray) (w : World) (hF : F.answers w.tape) (hc : w.cell? ⟨b, 0, none⟩ = some (.iface 73 (.pointer (some a)))) (hs : w.cell? a = some (.string s)) :
    Calls Tryf.prog 22 #[.string ⟨#[122, 122, 58, 32, 37, 119]⟩, .slice (some ⟨b, 0, none⟩) 1 1] w fun e w' => Wrapped w w' (.iface 73 (.pointer (some a))) e := by
  have hF' := answers_open hF
  have hop := op73 "fmt.errorf" a s w hs
  go_enter Tryf.func22, Tryf.ntmps22
  go_wp2
  apply rows_value nextTurns
  case hr =>
    go_simp
    exact ⟨rfl, rfl⟩
  case h =>
    go_wp2
    go_ret
    exact wrapped_mk _ _ _

end Go.Proofs.Qxb6612514aFmt.Mp
