import Derived.Test.Qxb6612514aFmtMpO
import Derived.Test.Qxb6612514aFmtMpG
namespace Go.Proofs.Qxb6612514aFmt.Jn
open Go.ChangeShapes Go.WideShapes Go.ChangeAt Go.RowKit Go.Kit
open Go.Extern.Stop Go.Stop Go.Extern
open Go.Proofs.Qxb6612514aFmt.Mp
set_option linter.unusedVariables false

theorem u8_nat {n : Int} (h : (Lit.int .u8 n).wf = true) : ∃ d : Nat, n = (d : Int) ∧ d ≤ 255 := by
  have h' : (decide (IntKind.u8.min ≤ n) && decide (n ≤ IntKind.u8.max)) = true := h
  have e1 : IntKind.u8.min = 0 := by decide
  have e2 : IntKind.u8.max = 255 := by decide
  rw [e1, e2] at h'
  simp at h'
  exact ⟨n.toNat, by omega, by omega⟩

theorem size_of {s : ByteArray} {l : List UInt8} (h : s.data.toList = l) : s.size = l.length := by
  rw [← h, Array.length_toList]
  rfl

/-- The listed texts are short. -/
theorem laid_short {W : World} (hL : laidMet Tryf.prog laid3 W) {a0 a1 a2 : Addr}
    (hv0 : W.var? Tryf.prog "example.com/turnstone/turnstone.ErrNoRun" = some #[.iface 74 (.pointer (some a0))]) (hv1 : W.var? Tryf.prog "example.com/turnstone/turnstone.ErrRateLimited" = some #[.iface 74 (.pointer (some a1))]) (hv2 : W.var? Tryf.prog "example.com/turnstone/turnstone.ErrTransient" = some #[.iface 74 (.pointer (some a2))]) : Short W a0 a1 a2 := by
  obtain ⟨b0, s0, w0, c0, z0, _⟩ := laid_sentinel hL gN gNType Tryf.underlying38 row74 Tryf.underlying74 Tryf.underlying76 rfl rfl Tryf.underlying9 cells76 cells9
  obtain ⟨b1, s1, w1, c1, z1, _⟩ := laid_sentinel hL.tail gR gRType Tryf.underlying38 row74 Tryf.underlying74 Tryf.underlying76 rfl rfl Tryf.underlying9 cells76 cells9
  obtain ⟨b2, s2, w2, c2, z2, _⟩ := laid_sentinel hL.tail.tail gT gTType Tryf.underlying38 row74 Tryf.underlying74 Tryf.underlying76 rfl rfl Tryf.underlying9 cells76 cells9
  have e0 : b0 = a0 := by rw [hv0] at w0; simpa using w0.symm
  have e1 : b1 = a1 := by rw [hv1] at w1; simpa using w1.symm
  have e2 : b2 = a2 := by rw [hv2] at w2; simpa using w2.symm
  subst e0
  subst e1
  subst e2
  intro a s ha hc
  rcases ha with rfl | rfl | rfl
  · obtain rfl : s0 = s := by rw [c0] at hc; simpa using hc
    rw [size_of z0]
    decide
  · obtain rfl : s1 = s := by rw [c1] at hc; simpa using hc
    rw [size_of z1]
    decide
  · obtain rfl : s2 = s := by rw [c2] at hc; simpa using hc
    rw [size_of z2]
    decide

set_option maxRecDepth 100000 in
theorem lifted (os : Os) (started : os.Started) (H : Type) (enc : TypeId × Value → H) :
    ReturnsInTold none {} Tryf.checked os 4 .any Input.okWide ((OpenSpec.ofChange Rows.fnMayPassJoinSpec).preRow enc Tryf.prog Tryf.f4 [] false laid3) (fun F => ((OpenSpec.ofChange Rows.fnMayPassJoinSpec).at F).post enc Tryf.prog Tryf.f4 false true false false) (aloneAtReturn Tryf.prog) nothingAlways := by
  refine returnsInTold_of_row (C := Tryf.checked) (s := OpenSpec.ofChange Rows.fnMayPassJoinSpec) (by kernel_rfl) own started (by kernel_rfl) Tryf.func4
    (OpenSpec.witness_stopped_at (enc := enc) (C := Tryf.checked) false (laidWorld Tryf.prog os) #[.int .u8 0, .int .u8 0, .int .u8 0] rfl (by kernel_rfl) (by kernel_rfl) (by kernel_rfl)
      (OpenSpec.preRow_of_B rfl 8 (by kernel_rfl) (by kernel_rfl) (laid_met os _))) ?_
  intro F W base args ds gs before _ hF hval0 hW _ _ _ hL _
  have hval : ∀ (j : Nat) t v, Tryf.f4.params[j]? = some t → args[j]? = some v → Value.okWide Tryf.prog W .any base t v := hval0
  have hW' := hW
  obtain ⟨p, q, hA0, hV0, rfl, hfz, hnd⟩ := hW
  have hA : DataW.TrodAll enc Tryf.prog W 0 (fun _ => true) true Tryf.f4.params.toList args.toList ds p := hA0
  have hV : DataW.TrodVars enc Tryf.prog W (fun _ => true) ["example.com/turnstone/turnstone.ErrRateLimited", "example.com/turnstone/turnstone.ErrTransient", "example.com/turnstone/turnstone.ErrNoRun"] gs q := hV0
  rw [Tryf.params4] at hA hval
  obtain ⟨v0, vs0, d0, ds0, p0, q0, hargs, rfl, rfl, h0, r0⟩ := trodAll_cons hA
  obtain ⟨v1, vs1, d1, ds1, p1, q1, rfl, rfl, rfl, h1, r1⟩ := trodAll_cons r0
  obtain ⟨v2, vs2, d2, ds2, p2, q2, rfl, rfl, rfl, h2, r2⟩ := trodAll_cons r1
  obtain ⟨rfl, rfl, rfl⟩ := trodAll_nil r2
  obtain rfl : args = #[v0, v1, v2] := by cases args; simp_all
  obtain ⟨k, rfl, rfl, rfl, wk⟩ := open_int Tryf.underlying5 (hval 0 5 v0 rfl rfl) h0
  obtain ⟨m, rfl, rfl, rfl, wm⟩ := open_int Tryf.underlying5 (hval 1 5 v1 rfl rfl) h1
  obtain ⟨d, rfl, rfl, rfl, wd⟩ := open_int Tryf.underlying5 (hval 2 5 v2 rfl rfl) h2
  obtain ⟨a0, a1, a2, hs, hv0, hv1, hv2⟩ := laid_open hL
  have hsh := laid_short hL hv0 hv1 hv2
  obtain ⟨rfl, rfl⟩ := hV.unique (vars_read3 enc hv0 hv1 hv2 trivial trivial trivial _)
  obtain ⟨dn, rfl, hd⟩ := u8_nat wd
  clear hA0 hV0 hval0
  refine (join_any F.told a0 a1 a2 k m dn hd W hF hs hsh).mono fun e W' ⟨he, bel⟩ => ?_
  subst he
  exact ⟨_, rfl, _, _, _, [], _, _, hW', trodAll_mk1 (shut_bool Tryf.underlying4 _), (trodAll_cons_mk (shut_int Tryf.underlying5 wk) (trodAll_cons_mk (shut_int Tryf.underlying5 wm) (trodAll_cons_mk (shut_int Tryf.underlying5 wd) trodAll_mk0))), vars_read3 enc (varBelow hv0 bel) (varBelow hv1 bel) (varBelow hv2 bel) trivial trivial trivial _, bel.frame _, fun h => by cases h⟩

theorem proved : Rows.FnMayPassJoinToldSaid :=
  Claim7.holds_of_told_tied_any_at .later 4 Tryf.f4 "fmt.errorf, its operands' methods called" [] [] _ _ _ _ _ (by kernel_rfl) rfl rfl rfl laidOut (by kernel_rfl) rfl ⟨rfl, rfl, rfl, rfl, rfl, rfl, rfl⟩ rfl rfl (by kernel_rfl) (by kernel_rfl) Tryf.func4 (by kernel_rfl)
    (of_decide_eq_true (by kernel_rfl)) (by unfold Func.isWrapper; first | (rw [if_pos (by decide +kernel)]; kernel_rfl) | (rw [if_neg (by decide +kernel)]; exact ⟨rfl, rfl⟩)) stops.symm rfl stopKnobs.symm (by kernel_rfl)
    (by kernel_rfl) (by kernel_rfl) (by kernel_rfl) (by kernel_rfl) (by kernel_rfl) (by kernel_rfl) (by kernel_rfl) (by kernel_rfl) (by kernel_rfl) rfl (by kernel_rfl) rfl rfl
    rfl rfl
    rfl (by kernel_rfl) (by kernel_rfl) (by kernel_rfl) (by decide) (by kernel_rfl) fnMayPassJoin_row_tie
    (OpenClaim.moreEntering_of (by kernel_rfl) (by kernel_rfl) (by kernel_rfl) (by kernel_rfl) (by kernel_rfl) (by kernel_rfl) (by kernel_rfl) (by kernel_rfl) (by kernel_rfl) (by kernel_rfl))
    ⟨_, WideRow.started_initial, quiet _⟩
    (fun os started _ H enc _ => lifted os started H enc)

end Go.Proofs.Qxb6612514aFmt.Jn
