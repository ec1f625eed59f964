import Derived.Test.Qxb6612514aFmtMpE
import Derived.Test.Qxb6612514aFmtTie
import Derived.ProofKit
import Derived.OpenShut
import Derived.ChangeOld
import Derived.Stop.JoinedTold
import Derived.Stop.JoinedAt
import Derived.Stop.Texts
import Derived.Stop.LaidErr
import Derived.Stop.LaidTwo
import Derived.SizedLaws
import Derived.SevenToldRow
import Derived.SevenTiedAt
namespace Go.Proofs.Qxb6612514aFmt.Mp
open Go.ChangeShapes Go.WideShapes Go.ChangeAt Go.RowKit Go.Kit
open Go.Extern.Stop Go.Stop Go.Extern

theorem own : ownKnob Tryf.prog.godebug = none := by kernel_rfl
theorem laidOut : laidOutB Tryf.pinned.checked.prog = true := by kernel_rfl
theorem stops : Tryf.pinned.checked.prog.stops = ["fmt.errorf, its operands' methods called"] := by kernel_rfl
theorem stopKnobs : Tryf.pinned.checked.prog.stopKnobs = [] := by kernel_rfl
theorem quiet (os : Os) : Stop.quiet Tryf.pinned.checked.prog os := by
  intro k hk
  rw [stopKnobs] at hk
  cases hk
theorem gN : Tryf.prog.globalNamed "example.com/turnstone/turnstone.ErrNoRun" = some 0 := by kernel_rfl
theorem gR : Tryf.prog.globalNamed "example.com/turnstone/turnstone.ErrRateLimited" = some 1 := by kernel_rfl
theorem gT : Tryf.prog.globalNamed "example.com/turnstone/turnstone.ErrTransient" = some 2 := by kernel_rfl
theorem gNType : (Tryf.prog.globals[0]?).map (·.type) = some 38 := by kernel_rfl
theorem gRType : (Tryf.prog.globals[1]?).map (·.type) = some 38 := by kernel_rfl
theorem gTType : (Tryf.prog.globals[2]?).map (·.type) = some 38 := by kernel_rfl
theorem cells76 : Tryf.prog.cellsOf 76 = 1 := by kernel_rfl
theorem cells9 : Tryf.prog.cellsOf 9 = 1 := by kernel_rfl
theorem star : "*" ++ "errors.errorString" = "*errors.errorString" := by decide
theorem row74 (u : TypeId) (h : Tryf.prog.typeName? 3 u = some "*errors.errorString") : u = 74 :=
  typeName_ptr_named (nm := "errors.errorString") (by rw [star]; kernel_rfl) (by kernel_rfl) (by decide) u (by rw [star]; exact h)

abbrev noS : ByteArray := { data := #[110, 111, 32, 114, 117, 110, 32, 105, 115, 32, 103, 111, 105, 110, 103] }
abbrev raS : ByteArray := { data := #[114, 97, 116, 101, 32, 108, 105, 109, 105, 116, 101, 100] }
abbrev trS : ByteArray := { data := #[116, 114, 97, 110, 115, 105, 101, 110, 116, 32, 102, 97, 105, 108, 117, 114, 101] }
def low (P : Program) : Nat := (World.holding P default ⟨#[], #[], []⟩).heap.size
def laidWorld (P : Program) (os : Os) : World :=
  let w0 := World.holding P os ⟨#[.cells #[.string noS] 76, .cells #[.string raS] 76, .cells #[.string trS] 76], #[], []⟩
  { w0 with heap := ((w0.heap.modify 0 fun
      | .cells _ t frozen => .cells #[.iface 74 (.pointer (some ⟨low P, 0, none⟩))] t frozen
      | o => o).modify 1 fun
      | .cells _ t frozen => .cells #[.iface 74 (.pointer (some ⟨low P + 1, 0, none⟩))] t frozen
      | o => o).modify 2 fun
      | .cells _ t frozen => .cells #[.iface 74 (.pointer (some ⟨low P + 2, 0, none⟩))] t frozen
      | o => o }
def laid3 : List (String × DataW Unit) := [("example.com/turnstone/turnstone.ErrNoRun", Rows.laid_example_com_turnstone_turnstone_ErrNoRun), ("example.com/turnstone/turnstone.ErrRateLimited", Rows.laid_example_com_turnstone_turnstone_ErrRateLimited), ("example.com/turnstone/turnstone.ErrTransient", Rows.laid_example_com_turnstone_turnstone_ErrTransient)]
theorem laid_met (os : Os) (args : Array Value) : laidMet Tryf.prog laid3 ((laidWorld Tryf.prog os).forCall (fun _ _ => 0) ⟨#[], args, []⟩).memory :=
  laidMet_of_run (ps := [.cell 0 0, .cell (low Tryf.prog) 0, .cell 1 0, .cell (low Tryf.prog + 1) 0, .cell 2 0, .cell (low Tryf.prog + 2) 0]) 8 (by kernel_rfl) (by kernel_rfl) (by kernel_rfl)

/-- What 'laid' gives. -/
theorem laid_open {W : World} (hL : laidMet Tryf.prog laid3 W) : ∃ a0 a1 a2 : Addr, Sents W a0 a1 a2 ∧
    W.var? Tryf.prog "example.com/turnstone/turnstone.ErrNoRun" = some #[.iface 74 (.pointer (some a0))] ∧ W.var? Tryf.prog "example.com/turnstone/turnstone.ErrRateLimited" = some #[.iface 74 (.pointer (some a1))] ∧ W.var? Tryf.prog "example.com/turnstone/turnstone.ErrTransient" = some #[.iface 74 (.pointer (some a2))] := by
  obtain ⟨a0, a1, s0, s1, c0, c1, t0, t1, hv0, hv1, hc0, hs0, hz0, hc1, hs1, hz1, hne, hb0, hb1⟩ := laid_sentinels2 hL gN gNType gR gRType Tryf.underlying38 row74 Tryf.underlying74 Tryf.underlying76 rfl rfl Tryf.underlying9 cells76 cells9
  obtain ⟨a1', a2, s1', s2, c1', c2, t1', t2, hv1', hv2, hc1', hs1', hz1', hc2, hs2, hz2, hne', hb1', hb2⟩ := laid_sentinels2 hL.tail gR gRType gT gTType Tryf.underlying38 row74 Tryf.underlying74 Tryf.underlying76 rfl rfl Tryf.underlying9 cells76 cells9
  have e1 : a1' = a1 := by
    rw [hv1] at hv1'
    simpa using hv1'.symm
  subst e1
  have e02 : a0 ≠ a2 := by
    rintro rfl
    rw [hc0] at hc2
    have : s0 = s2 := by simpa using hc2
    rw [this, hs2] at hs0
    exact absurd hs0 (by decide)
  have hg0 : W.cell? ⟨0, 0, none⟩ = some (.iface 74 (.pointer (some a0))) := by simpa using World.var?_cell gN hv0 0
  have hg1 : W.cell? ⟨1, 0, none⟩ = some (.iface 74 (.pointer (some a1'))) := by simpa using World.var?_cell gR hv1 0
  have hg2 : W.cell? ⟨2, 0, none⟩ = some (.iface 74 (.pointer (some a2))) := by simpa using World.var?_cell gT hv2 0
  exact ⟨a0, a1', a2, ⟨⟨hg0, ⟨_, _, hb0⟩, _, hc0⟩, ⟨hg1, ⟨_, _, hb1⟩, _, hc1⟩, ⟨hg2, ⟨_, _, hb2⟩, _, hc2⟩, hne, e02, hne'⟩, hv0, hv1, hv2⟩

theorem vars_read3 {H : Type} (enc : TypeId × Value → H) {W : World} {x0 x1 x2 : Value}
    (h0 : W.var? Tryf.prog "example.com/turnstone/turnstone.ErrNoRun" = some #[x0]) (h1 : W.var? Tryf.prog "example.com/turnstone/turnstone.ErrRateLimited" = some #[x1]) (h2 : W.var? Tryf.prog "example.com/turnstone/turnstone.ErrTransient" = some #[x2])
    (i0 : IsIface x0) (i1 : IsIface x1) (i2 : IsIface x2) (sp : Nat → Bool) :
    DataW.TrodVars enc Tryf.prog W sp ["example.com/turnstone/turnstone.ErrRateLimited", "example.com/turnstone/turnstone.ErrTransient", "example.com/turnstone/turnstone.ErrNoRun"] [tok enc x1, tok enc x2, tok enc x0] [.cell 1 0, .cell 2 0, .cell 0 0] :=
  ⟨1, 38, #[x1], 1, [], [.cell 2 0, .cell 0 0], gR, gRType, h1, trod_held Tryf.underlying38 i1 0, ⟨2, 38, #[x2], 1, [], [.cell 0 0], gT, gTType, h2, trod_held Tryf.underlying38 i2 0, ⟨0, 38, #[x0], 1, [], [], gN, gNType, h0, trod_held Tryf.underlying38 i0 0, rfl, rfl⟩, rfl⟩, rfl⟩

theorem varBelow {W W' : World} {n : String} {cs : Array Value} (h : W.var? Tryf.prog n = some cs) (hb : Below W.heap.size W W') : W'.var? Tryf.prog n = some cs := by
  unfold World.var? at h ⊢
  cases hg : Tryf.prog.globalNamed n with
  | none => simp [hg] at h
  | some g =>
    simp only [hg, Option.bind_some] at h ⊢
    have hlt : g < W.heap.size := by
      rcases Nat.lt_or_ge g W.heap.size with h' | h'
      · exact h'
      · simp [Array.getElem?_eq_none h'] at h
    rw [hb.block g hlt]
    exact h

end Go.Proofs.Qxb6612514aFmt.Mp
