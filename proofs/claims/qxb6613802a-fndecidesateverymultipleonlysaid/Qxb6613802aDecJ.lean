import Derived.Test.Qxb6613802aDecI
import Derived.ShutString
namespace Go.Proofs.Qxb6613802a.Dec
open Go.ChangeShapes Go.WideShapes Go.ChangeAt Go.RowKit
set_option linter.unusedVariables false

theorem own : ownKnob Try.prog.godebug = none := by kernel_rfl
theorem laidOut : laidOutB Try.prog = true := by kernel_rfl

set_option maxRecDepth 100000 in
theorem pol_open {H : Type} {enc : TypeId × Value → H} {w : World} {spare : Nat → Bool} {held : Bool} {r : Reach} {b0 : Nat} {v : Value} {dd : DataW H} {p : List MemPlace}
    (hv : Value.okWide Try.prog w r b0 35 v) (h : DataW.Trod enc Try.prog w 0 spare held 35 v dd p) :
    ∃ (n0 n11 n12 n15 n16 n21 n22 d : Int) (x1 x2 x3 x4 x5 x6 x7 x8 x13 x14 x17 x18 x19 : Nat) (a9 a10 : Option Addr) (l9 k9 l10 k10 : Nat), v = .agg #[.int .i64 n0, .float .f64 x1, .float .f64 x2, .float .f64 x3, .float .f64 x4, .float .f64 x5, .float .f64 x6, .float .f64 x7, .float .f64 x8, .slice a9 l9 k9, .slice a10 l10 k10, .int .i64 n11, .int .i64 n12, .float .f64 x13, .float .f64 x14, .int .i64 n15, .int .i64 n16, .float .f64 x17, .float .f64 x18, .float .f64 x19, .int .i64 d, .int .i64 n21, .int .i64 n22] ∧ LimOk w a9 l9 k9 ∧ LimOk w a10 l10 k10 ∧ l9 ≤ maxLen ∧ l10 ≤ maxLen ∧ (Lit.int .i64 d).wf = true := by
  obtain ⟨cs, rfl, hsz⟩ := okWide_struct Try.underlying35 hv
  obtain ⟨c0, c1, c2, c3, c4, c5, c6, c7, c8, c9, c10, c11, c12, c13, c14, c15, c16, c17, c18, c19, c20, c21, c22, rfl⟩ := array23 (hsz.trans oc35)
  obtain ⟨fuel, hf0⟩ := h
  obtain ⟨xs, n, _, _, _, hlen, hf⟩ := DataW.trod_struct Try.underlying35 hf0
  have hs : ∀ j, j < 23 → (xs[j]?).isSome = true := fun j hj => by
    have : j < xs.length := by rw [hlen]; exact hj
    simp [this]
  simp only [Value.cells] at hf
  obtain ⟨n0, e0, w0⟩ := fld_int Try.underlying3 (hf 0 _ rfl) (hs 0 (by omega))
  obtain ⟨x1, e1⟩ := fld_float (hf 1 _ rfl) (hs 1 (by omega))
  obtain ⟨x2, e2⟩ := fld_float (hf 2 _ rfl) (hs 2 (by omega))
  obtain ⟨x3, e3⟩ := fld_float (hf 3 _ rfl) (hs 3 (by omega))
  obtain ⟨x4, e4⟩ := fld_float (hf 4 _ rfl) (hs 4 (by omega))
  obtain ⟨x5, e5⟩ := fld_float (hf 5 _ rfl) (hs 5 (by omega))
  obtain ⟨x6, e6⟩ := fld_float (hf 6 _ rfl) (hs 6 (by omega))
  obtain ⟨x7, e7⟩ := fld_float (hf 7 _ rfl) (hs 7 (by omega))
  obtain ⟨x8, e8⟩ := fld_float (hf 8 _ rfl) (hs 8 (by omega))
  obtain ⟨a9, l9, k9, e9, h9, m9⟩ := lim_open (hf 9 _ rfl) (hs 9 (by omega))
  obtain ⟨a10, l10, k10, e10, h10, m10⟩ := lim_open (hf 10 _ rfl) (hs 10 (by omega))
  obtain ⟨n11, e11, w11⟩ := fld_int Try.underlying3 (hf 11 _ rfl) (hs 11 (by omega))
  obtain ⟨n12, e12, w12⟩ := fld_int Try.underlying3 (hf 12 _ rfl) (hs 12 (by omega))
  obtain ⟨x13, e13⟩ := fld_float (hf 13 _ rfl) (hs 13 (by omega))
  obtain ⟨x14, e14⟩ := fld_float (hf 14 _ rfl) (hs 14 (by omega))
  obtain ⟨n15, e15, w15⟩ := fld_int Try.underlying2 (hf 15 _ rfl) (hs 15 (by omega))
  obtain ⟨n16, e16, w16⟩ := fld_int Try.underlying3 (hf 16 _ rfl) (hs 16 (by omega))
  obtain ⟨x17, e17⟩ := fld_float (hf 17 _ rfl) (hs 17 (by omega))
  obtain ⟨x18, e18⟩ := fld_float (hf 18 _ rfl) (hs 18 (by omega))
  obtain ⟨x19, e19⟩ := fld_float (hf 19 _ rfl) (hs 19 (by omega))
  obtain ⟨d, e20, w20⟩ := fld_int Try.underlying2 (hf 20 _ rfl) (hs 20 (by omega))
  obtain ⟨n21, e21, w21⟩ := fld_int Try.underlying3 (hf 21 _ rfl) (hs 21 (by omega))
  obtain ⟨n22, e22, w22⟩ := fld_int Try.underlying2 (hf 22 _ rfl) (hs 22 (by omega))
  clear hf hs hf0 hv
  simp [oc3] at e0
  simp [oc32] at e1
  simp [oc32] at e2
  simp [oc32] at e3
  simp [oc32] at e4
  simp [oc32] at e5
  simp [oc32] at e6
  simp [oc32] at e7
  simp [oc32] at e8
  simp [oc33] at e9
  simp [oc33] at e10
  simp [oc3] at e11
  simp [oc3] at e12
  simp [oc32] at e13
  simp [oc32] at e14
  simp [oc2] at e15
  simp [oc3] at e16
  simp [oc32] at e17
  simp [oc32] at e18
  simp [oc32] at e19
  simp [oc2] at e20
  simp [oc3] at e21
  simp [oc2] at e22
  subst e0 e1 e2 e3 e4 e5 e6 e7 e8 e9 e10 e11 e12 e13 e14 e15 e16 e17 e18 e19 e20 e21 e22
  exact ⟨n0, n11, n12, n15, n16, n21, n22, d, x1, x2, x3, x4, x5, x6, x7, x8, x13, x14, x17, x18, x19, a9, a10, l9, k9, l10, k10, rfl, h9, h10, m9, m10, w20⟩

theorem walk (n0 n11 n12 n15 n16 n21 n22 d : Int) (x1 x2 x3 x4 x5 x6 x7 x8 x13 x14 x17 x18 x19 : Nat) (a9 a10 : Option Addr) (l9 k9 l10 k10 : Nat) (k t : Int) (w : World) (hl9 : l9 ≤ maxLen) (hl10 : l10 ≤ maxLen) (h9 : LimOk w a9 l9 k9) (h10 : LimOk w a10 l10 k10) (wd : (Lit.int .i64 d).wf = true) (wk : (Lit.int .i64 k).wf = true) (wt : (Lit.int .i64 t).wf = true) :
    Calls Try.prog 4 #[.agg #[.int .i64 n0, .float .f64 x1, .float .f64 x2, .float .f64 x3, .float .f64 x4, .float .f64 x5, .float .f64 x6, .float .f64 x7, .float .f64 x8, .slice a9 l9 k9, .slice a10 l10 k10, .int .i64 n11, .int .i64 n12, .float .f64 x13, .float .f64 x14, .int .i64 n15, .int .i64 n16, .float .f64 x17, .float .f64 x18, .float .f64 x19, .int .i64 d, .int .i64 n21, .int .i64 n22], .int .i64 k, .int .i64 t] w fun e w' => e = .returned (.bool true) ∧ Below w.heap.size w w' := by
  have bd := bounds_i64 wd
  have bk := bounds_i64 wk
  have bt := bounds_i64 wt
  by_cases hB : bytesB l9 l10 = true
  · by_cases hc : 16384 < l9 ∨ 16384 < l10
    · exact f4_big n0 n11 n12 n15 n16 n21 n22 d x1 x2 x3 x4 x5 x6 x7 x8 x13 x14 x17 x18 x19 a9 a10 l9 k9 l10 k10 k t w hl9 hl10 hB hc
    · by_cases hd : d ≤ 1
      · exact f4_le n0 n11 n12 n15 n16 n21 n22 d x1 x2 x3 x4 x5 x6 x7 x8 x13 x14 x17 x18 x19 a9 a10 l9 k9 l10 k10 k t w hl9 hl10 hB h9 h10 (by omega) (by omega) hd
      · exact f4_gt n0 n11 n12 n15 n16 n21 n22 d x1 x2 x3 x4 x5 x6 x7 x8 x13 x14 x17 x18 x19 a9 a10 l9 k9 l10 k10 k t w hl9 hl10 hB h9 h10 (by omega) (by omega) (by omega) (by omega) (by omega) (by omega) (by omega) (by omega)
  · exact f4_small n0 n11 n12 n15 n16 n21 n22 d x1 x2 x3 x4 x5 x6 x7 x8 x13 x14 x17 x18 x19 a9 a10 l9 k9 l10 k10 k t w hl9 hl10 (by simpa using hB)

set_option maxRecDepth 100000 in
theorem lifted (os : Os) (started : os.Started) (H : Type) (enc : TypeId × Value → H) :
    ReturnsInHanded {} Try.checked os 4 .any (Rows.fnDecidesAtEveryMultipleOnlySpec.pre6 enc Try.prog Try.f4 Rows.fnDecidesAtEveryMultipleOnlyRow.domain false) (Rows.fnDecidesAtEveryMultipleOnlySpec.post enc Try.prog Try.f4 false true false false) := by
  refine returnsInHanded_of_change (C := Try.checked) own started (by kernel_rfl) Try.func4
    (ChangeSpec.witness6 (enc := enc) (C := Try.checked) false ⟨#[], #[.agg #[.int .i64 0, .float .f64 0, .float .f64 0, .float .f64 0, .float .f64 0, .float .f64 0, .float .f64 0, .float .f64 0, .float .f64 0, .slice none 0 0, .slice none 0 0, .int .i64 0, .int .i64 0, .float .f64 0, .float .f64 0, .int .i64 0, .int .i64 0, .float .f64 0, .float .f64 0, .float .f64 0, .int .i64 0, .int .i64 0, .int .i64 0], .int .i64 0, .int .i64 0], []⟩ 8 (by kernel_rfl) (by kernel_rfl) (by kernel_rfl) (by kernel_rfl)) ?_
  intro W base args ds gs before hval0 hW hcnd _
  have hval : ∀ (j : Nat) t v, Try.f4.params[j]? = some t → args[j]? = some v → Value.okWide Try.prog W .any base t v := hval0
  have hW' := hW
  obtain ⟨p, q, hA0, hV, rfl, hfz, hnd⟩ := hW
  have hA : DataW.TrodAll enc Try.prog W 0 (fun _ => true) true Try.f4.params.toList args.toList ds p := hA0
  rw [Try.params4] at hA hval
  obtain ⟨v0, vs0, d0, ds0, p0, q0, hargs, rfl, rfl, h0, r0⟩ := trodAll_cons hA
  obtain ⟨v1, vs1, d1, ds1, p1, q1, rfl, rfl, rfl, h1, r1⟩ := trodAll_cons r0
  obtain ⟨v2, vs2, d2, ds2, p2, q2, rfl, rfl, rfl, h2, r2⟩ := trodAll_cons r1
  obtain ⟨rfl, rfl, rfl⟩ := trodAll_nil r2
  obtain rfl : args = #[v0, v1, v2] := by cases args; simp_all
  obtain ⟨rfl, rfl⟩ := trodVars_none hV
  have k0 := h0
  have lt0 : ∀ x ∈ p0, x.block < W.heap.size := by obtain ⟨m, hm⟩ := k0; exact DataW.trod_lt m _ _ _ hm
  obtain ⟨n0, n11, n12, n15, n16, n21, n22, d, x1, x2, x3, x4, x5, x6, x7, x8, x13, x14, x17, x18, x19, a9, a10, l9, k9, l10, k10, rfl, hL9, hL10, m9, m10, wd⟩ := pol_open (hval 0 35 v0 rfl rfl) h0
  obtain ⟨k, rfl, rfl, rfl, wk⟩ := open_int Try.underlying2 (hval 1 2 v1 rfl rfl) h1
  obtain ⟨t, rfl, rfl, rfl, wt⟩ := open_int Try.underlying2 (hval 2 2 v2 rfl rfl) h2
  clear hA0 hval0
  refine (walk n0 n11 n12 n15 n16 n21 n22 d x1 x2 x3 x4 x5 x6 x7 x8 x13 x14 x17 x18 x19 a9 a10 l9 k9 l10 k10 k t W m9 m10 hL9 hL10 wd wk wt).mono fun e W' ⟨he, bel⟩ => ?_
  subst he
  exact ⟨_, rfl, _, _, _, [], _, [], hW', trodAll_mk1 (shut_bool Try.underlying4 _), (trodAll_cons_mk (Below.trod laidOut (by kernel_rfl) (of_decide_eq_true (by kernel_rfl)) k0 bel lt0) (trodAll_cons_mk (shut_int Try.underlying2 wk) (trodAll_cons_mk (shut_int Try.underlying2 wt) trodAll_mk0))), rfl, bel.frame _, fun h => by cases h⟩

theorem over : Rows.fnDecidesAtEveryMultipleOnlyRow.holds Try.pinned (OpenSpec.ofChange Rows.fnDecidesAtEveryMultipleOnlySpec) :=
  OpenClaim.holds_of_wide 4 Try.f4 rfl rfl rfl rfl rfl rfl rfl ⟨rfl, rfl, rfl, rfl, rfl⟩ rfl rfl rfl rfl rfl (by kernel_rfl) Try.func4 (by kernel_rfl)
    (of_decide_eq_true (by kernel_rfl)) (by unfold Func.isWrapper; first | (rw [if_pos (by decide +kernel)]; kernel_rfl) | (rw [if_neg (by decide +kernel)]; exact ⟨rfl, rfl⟩))
    (fun os started H enc _ => lifted os started H enc)

theorem proved : Rows.FnDecidesAtEveryMultipleOnlySaid := over
end Go.Proofs.Qxb6613802a.Dec

