import Derived.Test.Qxb6612514aFmtMpF
import Derived.Test.Qxb6612514aFmtMpG
namespace Go.Proofs.Qxb6612514aFmt.Cls
open Go.ChangeShapes Go.WideShapes Go.ChangeAt Go.RowKit Go.Kit
open Go.Extern.Stop Go.Stop Go.Extern
open Go.Proofs.Qxb6612514aFmt.Mp
set_option linter.unusedVariables false

theorem u8_nat {n : Int} (h : (Lit.int .u8 n).wf = true) : ∃ d : Nat, n = (d : Int) ∧ d ≤ 255 := by
  have h' : (decide (IntKind.u8.min ≤ n) && decide (n ≤ IntKind.u8.max)) = true := h
  have e1 : IntKind.u8.min = 0 := by decide
  have e2 : IntKind.u8.max = 255 := by decide
  rw [e1, e2] at h'
  simp at h'
  exact ⟨n.toNat, by omega, by omega⟩

set_option maxRecDepth 100000 in
theorem lifted (os : Os) (started : os.Started) (H : Type) (enc : TypeId × Value → H) :
    ReturnsInTold none {} Tryf.checked os 3 .any Input.okWide ((OpenSpec.ofChange Rows.fnMayPassClassSpec).preRow enc Tryf.prog Tryf.f3 [] false laid3) (fun F => ((OpenSpec.ofChange Rows.fnMayPassClassSpec).at F).post enc Tryf.prog Tryf.f3 false true false false) (aloneAtReturn Tryf.prog) nothingAlways := by
  refine returnsInTold_of_row (C := Tryf.checked) (s := OpenSpec.ofChange Rows.fnMayPassClassSpec) (by kernel_rfl) own started (by kernel_rfl) Tryf.func3
    (OpenSpec.witness_stopped_at (enc := enc) (C := Tryf.checked) false (laidWorld Tryf.prog os) #[.int .u8 0, .int .u8 0] rfl (by kernel_rfl) (by kernel_rfl) (by kernel_rfl)
      (OpenSpec.preRow_of_B rfl 8 (by kernel_rfl) (by kernel_rfl) (laid_met os _))) ?_
  intro F W base args ds gs before _ hF hval0 hW _ _ _ hL _
  have hval : ∀ (j : Nat) t v, Tryf.f3.params[j]? = some t → args[j]? = some v → Value.okWide Tryf.prog W .any base t v := hval0
  have hW' := hW
  obtain ⟨p, q, hA0, hV0, rfl, hfz, hnd⟩ := hW
  have hA : DataW.TrodAll enc Tryf.prog W 0 (fun _ => true) true Tryf.f3.params.toList args.toList ds p := hA0
  have hV : DataW.TrodVars enc Tryf.prog W (fun _ => true) ["example.com/turnstone/turnstone.ErrRateLimited", "example.com/turnstone/turnstone.ErrTransient", "example.com/turnstone/turnstone.ErrNoRun"] gs q := hV0
  rw [Tryf.params3] at hA hval
  obtain ⟨v0, vs0, d0, ds0, p0, q0, hargs, rfl, rfl, h0, r0⟩ := trodAll_cons hA
  obtain ⟨v1, vs1, d1, ds1, p1, q1, rfl, rfl, rfl, h1, r1⟩ := trodAll_cons r0
  obtain ⟨rfl, rfl, rfl⟩ := trodAll_nil r1
  obtain rfl : args = #[v0, v1] := by cases args; simp_all
  obtain ⟨k, rfl, rfl, rfl, wk⟩ := open_int Tryf.underlying5 (hval 0 5 v0 rfl rfl) h0
  obtain ⟨d, rfl, rfl, rfl, wd⟩ := open_int Tryf.underlying5 (hval 1 5 v1 rfl rfl) h1
  obtain ⟨a0, a1, a2, hs, hv0, hv1, hv2⟩ := laid_open hL
  obtain ⟨rfl, rfl⟩ := hV.unique (vars_read3 enc hv0 hv1 hv2 trivial trivial trivial _)
  obtain ⟨dn, rfl, hd⟩ := u8_nat wd
  clear hA0 hV0 hval0
  refine (class_any F.told a0 a1 a2 k dn hd W hF hs).mono fun e W' ⟨he, bel⟩ => ?_
  subst he
  exact ⟨_, rfl, _, _, _, [], _, _, hW', trodAll_mk1 (shut_bool Tryf.underlying4 _), (trodAll_cons_mk (shut_int Tryf.underlying5 wk) (trodAll_cons_mk (shut_int Tryf.underlying5 wd) trodAll_mk0)), vars_read3 enc (varBelow hv0 bel) (varBelow hv1 bel) (varBelow hv2 bel) trivial trivial trivial _, bel.frame _, fun h => by cases h⟩

theorem proved : Rows.FnMayPassClassToldSaid :=
  Claim7.holds_of_told_tied_any_at .later 3 Tryf.f3 "fmt.errorf, its operands' methods called" [] [] _ _ _ _ _ (by kernel_rfl) rfl rfl rfl laidOut (by kernel_rfl) rfl ⟨rfl, rfl, rfl, rfl, rfl, rfl, rfl⟩ rfl rfl (by kernel_rfl) (by kernel_rfl) Tryf.func3 (by kernel_rfl)
    (of_decide_eq_true (by kernel_rfl)) (by unfold Func.isWrapper; first | (rw [if_pos (by decide +kernel)]; kernel_rfl) | (rw [if_neg (by decide +kernel)]; exact ⟨rfl, rfl⟩)) stops.symm rfl stopKnobs.symm (by kernel_rfl)
    (by kernel_rfl) (by kernel_rfl) (by kernel_rfl) (by kernel_rfl) (by kernel_rfl) (by kernel_rfl) (by kernel_rfl) (by kernel_rfl) (by kernel_rfl) rfl (by kernel_rfl) rfl rfl
    rfl rfl
    rfl (by kernel_rfl) (by kernel_rfl) (by kernel_rfl) (by decide) (by kernel_rfl) fnMayPassClass_row_tie
    (OpenClaim.moreEntering_of (by kernel_rfl) (by kernel_rfl) (by kernel_rfl) (by kernel_rfl) (by kernel_rfl) (by kernel_rfl) (by kernel_rfl) (by kernel_rfl) (by kernel_rfl) (by kernel_rfl))
    ⟨_, WideRow.started_initial, quiet _⟩
    (fun os started _ H enc _ => lifted os started H enc)

end Go.Proofs.Qxb6612514aFmt.Cls
