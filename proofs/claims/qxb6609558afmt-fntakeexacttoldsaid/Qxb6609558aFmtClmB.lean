import Derived.Test.Qxb6609558aFmtClmA
import Derived.Stop.CallBack
import Derived.Stop.IfaceNil
import GoSem.ClaimData
namespace Go.Proofs.Qxb6609558aFmt.Clm
open Go.RowKit Go.Extern.Stop Go.Stop Go.Extern

theorem call21 (args : Array Value) (w : World) : (callFunc 21 args).run Tryf.prog w = ((FmtStop.errorf #[9, 51] #[41] args).run Tryf.prog w).andThen fun v w' => .ok (.value v) w' :=
  run_callFunc_extern Tryf.func21 (by kernel_rfl) (by kernel_rfl) (by kernel_rfl) (by kernel_rfl) args w
theorem fguard (name : String) (w : World) : (FmtStop.guard name).run Tryf.prog w = .ok () w := by kernel_rfl
theorem fmt0 : FmtStop.printed? ⟨#[99, 108, 97, 105, 109, 115, 32, 104, 97, 118, 101, 32, 110, 111, 32, 37, 115]⟩ 1 = some [(0, 115, false)] := by kernel_rfl
theorem fmt0r (w : World) : (FmtDoors.printed ⟨#[99, 108, 97, 105, 109, 115, 32, 104, 97, 118, 101, 32, 110, 111, 32, 37, 115]⟩ 1).run Tryf.prog w = .ok [(0, 115, false)] w := by kernel_rfl
def shape9 : List UInt8 := [12, 6, 0, 0, 0, 0, 0, 0, 0, 115, 116, 114, 105, 110, 103]
theorem op9_115 (name : String) (x : ByteArray) (w : World) : (FmtStop.operand name false 115 false (.iface 9 (.string x))).run Tryf.prog w = .ok (shape9, FmtStop.pack x.data.toList) w := by kernel_rfl
theorem op9_115w (name : String) (x : ByteArray) (w : World) : (FmtStop.operand name true 115 false (.iface 9 (.string x))).run Tryf.prog w = .ok (shape9, FmtStop.pack x.data.toList) w := by kernel_rfl
theorem ptr54 (w : World) : (FmtStop.ptrTo "errors.errorString").run Tryf.prog w = .ok 54 w := by kernel_rfl
theorem elem54 (w : World) : (elemOf 54).run Tryf.prog w = .ok 56 w := by kernel_rfl
attribute [local go_sem] call21 fguard fmt0 fmt0r op9_115 op9_115w ptr54 elem54

set_option maxHeartbeats 400000 in
theorem errorf_any (F : Interp) (nm : ByteArray) (b : Nat) (w : World) (hF : F.answers w.tape) (hc : w.cell? ⟨b, 0, none⟩ = some (.iface 9 (.string nm))) :
    Calls Tryf.prog 20 #[.string ⟨#[99, 108, 97, 105, 109, 115, 32, 104, 97, 118, 101, 32, 110, 111, 32, 37, 115]⟩, .slice (some ⟨b, 0, none⟩) 1 1] w fun e w' => (∃ v, e = .returned (.iface 54 v)) ∧ Below w.heap.size w w' := by
  have hF' := answers_open hF
  go_enter Tryf.func20, Tryf.ntmps20
  go_wp2
  go_ret
  exact ⟨⟨_, rfl⟩, ((Below.refl _ _).alloc (Nat.le_refl _) _).drew⟩

/-- A reader in block r over the map in block m; fb: it holds an error. -/
def isErr (fb : Bool) (v : Value) : Prop := (fb = false ∧ v = .nilIface) ∨ (fb = true ∧ ∃ u, v = .iface 54 u)
def RdrAt (w : World) (r m : Nat) (fb : Bool) : Prop :=
  w.cell? ⟨r, 0, none⟩ = some (.map (some m)) ∧ (∃ v, w.cell? ⟨r, 1, none⟩ = some v ∧ isErr fb v) ∧ w.frozen? ⟨r, 1, none⟩ = false

theorem RdrAt.below {w w' : World} {r m B : Nat} {fb : Bool} (h : RdrAt w r m fb) (hb : Below B w w') (hr : r < B) : RdrAt w' r m fb := by
  obtain ⟨h0, ⟨v, h1, h2⟩, h3⟩ := h
  exact ⟨(hb.cell (by exact hr)).trans h0, ⟨v, (hb.cell (by exact hr)).trans h1, h2⟩, (hb.frozen (by exact hr)).trans h3⟩
theorem RdrAt.grown {w w' : World} {r m : Nat} {fb : Bool} (h : RdrAt w r m fb) (hg : w.grownBy w' (some m)) (hne : m < r) : RdrAt w' r m fb := by
  obtain ⟨h0, ⟨v, h1, h2⟩, h3⟩ := h
  have hb : w'.heap[r]? = w.heap[r]? := hg.block r (World.block_lt_of_cell? w ⟨r, 0, none⟩ h0) (by simp; omega)
  exact ⟨(World.cell?_of_block (a := ⟨r, 0, none⟩) hb).trans h0, ⟨v, (World.cell?_of_block (a := ⟨r, 1, none⟩) hb).trans h1, h2⟩, (World.frozen?_of_block (a := ⟨r, 1, none⟩) hb).trans h3⟩
theorem MapAt.below {w w' : World} {m B : Nat} {L : List (ByteArray × Value)} (h : MapAt w m L) (hb : Below B w w') (hm : m < B) : MapAt w' m L := by
  obtain ⟨es, clock, h0, h1⟩ := h
  exact ⟨es, clock, (hb.block m hm).trans h0, h1⟩
theorem MapAt.set {w : World} {m : Nat} {L : List (ByteArray × Value)} (h : MapAt w m L) (a : Addr) (v : Value) (hne : a.block ≠ m) : MapAt (w.setCell a v) m L := by
  obtain ⟨es, clock, h0, h1⟩ := h
  exact ⟨es, clock, by rw [Below.heap_setCell _ _ _ _ (Ne.symm hne)]; exact h0, h1⟩

set_option maxHeartbeats 400000 in
theorem fail_any (r m : Nat) (L : List (ByteArray × Value)) (fb : Bool) (u : Value) (w : World) (hr : RdrAt w r m fb) (hm : MapAt w m L) (hne : m < r) :
    Calls Tryf.prog 19 #[.pointer (some ⟨r, 0, none⟩), .iface 54 u] w fun e w' => e = .returned (.tuple #[]) ∧ RdrAt w' r m true ∧ MapAt w' m L ∧ Below r w w' ∧ w'.heap.size = w.heap.size := by
  obtain ⟨h0, ⟨v, h1, h2⟩, h3⟩ := hr
  have HM : Hid (MapAt w m L) := hm
  clear hm
  rcases h2 with ⟨rfl, rfl⟩ | ⟨rfl, u', rfl⟩
  · go_enter Tryf.func19, Tryf.ntmps19
    go_wp2
    go_end0
    refine ⟨rfl, ⟨?_, ⟨_, World.cell?_setCell_same _ _ _ h1, .inr ⟨rfl, u, rfl⟩⟩, by simp [h3]⟩, HM.out.set _ _ (by show r ≠ m; omega), (Below.refl _ _).setCell (p := ⟨r, 1, none⟩) (Nat.le_refl r) _, by simp⟩
    rw [World.cell?_setCell_other (h := by simp)]
    exact h0
  · go_enter Tryf.func19, Tryf.ntmps19
    go_wp2
    go_end0
    exact ⟨rfl, ⟨h0, ⟨_, h1, .inr ⟨rfl, u', rfl⟩⟩, h3⟩, HM.out, Below.refl _ _, rfl⟩

def txt : Value → ByteArray
  | .iface _ (.string s) => s
  | _ => ⟨#[]⟩
def num : Value → Bool
  | .iface 39 _ => true
  | _ => false
/-- What the map holds: a string, or a number's text. -/
def Held (v : Value) : Prop := v = .nilIface ∨ ∃ s, v = .iface 9 (.string s) ∨ v = .iface 39 (.string s)

theorem as39_nil (w : World) : (Instr.typeAssert .nilIface 20 39 true).run Tryf.prog w = .ok (.tuple #[.string ⟨#[]⟩, .bool false]) w := by kernel_rfl
theorem as9_nil (w : World) : (Instr.typeAssert .nilIface 20 9 true).run Tryf.prog w = .ok (.tuple #[.string ⟨#[]⟩, .bool false]) w := by kernel_rfl
theorem as39_9 (s : ByteArray) (w : World) : (Instr.typeAssert (.iface 9 (.string s)) 20 39 true).run Tryf.prog w = .ok (.tuple #[.string ⟨#[]⟩, .bool false]) w := by kernel_rfl
theorem as9_9 (s : ByteArray) (w : World) : (Instr.typeAssert (.iface 9 (.string s)) 20 9 true).run Tryf.prog w = .ok (.tuple #[.string s, .bool true]) w := by kernel_rfl
theorem as39_39 (s : ByteArray) (w : World) : (Instr.typeAssert (.iface 39 (.string s)) 20 39 true).run Tryf.prog w = .ok (.tuple #[.string s, .bool true]) w := by kernel_rfl

set_option maxHeartbeats 400000 in
theorem plain_any (v : Value) (w : World) (h : Held v) :
    Calls Tryf.prog 18 #[v] w fun e w' => e = .returned (.tuple #[.string (txt v), .bool (num v)]) ∧ w = w' := by
  have q1 := as39_nil
  have q2 := as9_nil
  have q3 := as39_9
  have q4 := as9_9
  have q5 := as39_39
  rcases h with rfl | ⟨s, rfl | rfl⟩
  · go_enter Tryf.func18, Tryf.ntmps18
    go_wp2
    go_ret2
    exact ⟨rfl, rfl⟩
  · go_enter Tryf.func18, Tryf.ntmps18
    go_wp2
    go_ret2
    exact ⟨rfl, rfl⟩
  · go_enter Tryf.func18, Tryf.ntmps18
    go_wp2
    go_ret2
    exact ⟨rfl, rfl⟩

end Go.Proofs.Qxb6609558aFmt.Clm
