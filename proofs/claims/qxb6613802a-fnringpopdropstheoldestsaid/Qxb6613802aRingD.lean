import Derived.Test.Qxb6613802aRingC
import Derived.ProofKit
import Derived.OpenShut
import Derived.ShutString
import Derived.Deep.Slices
import Derived.ChangeOld
namespace Go.Proofs.Qxb6613802a.Ring
open Go.ChangeShapes Go.WideShapes Go.ChangeAt Go.RowKit
set_option linter.unusedVariables false

theorem own : ownKnob Try.prog.godebug = none := by kernel_rfl
theorem laidOut : laidOutB Try.prog = true := by kernel_rfl
theorem oc32 : Try.prog.cellsOf 32 = 1 := by kernel_rfl

/-- What the walk is told of a slice of floats that came in. -/
def FlOk (w : World) (a : Option Addr) (len : Nat) : Prop :=
  len ≤ maxLen ∧ (len = 0 ∨ ∃ (b off : Nat) (F : Nat → Nat), a = some ⟨b, off, none⟩ ∧ b < w.heap.size ∧ ∀ j, j < len → w.cell? ⟨b, off + j, none⟩ = some (.float .f64 (F j)))

section
variable {H : Type} {enc : TypeId × Value → H} {w : World} {spare : Nat → Bool} {held : Bool} {fuel : Nat} {cs : List Value}

theorem fld_float {x : DataW H × List MemPlace} (h : DataW.trod enc Try.prog w 0 spare held fuel 32 cs = some x) : ∃ n, cs = [.float .f64 n] := by
  cases fuel with
  | zero => simp [DataW.trod] at h
  | succ n =>
    unfold DataW.trod at h
    rw [Try.underlying32] at h
    split at h <;> simp_all

theorem fl_open {a : Option Addr} {len cap : Nat} {x : DataW H × List MemPlace} (h : DataW.trod enc Try.prog w 0 spare held fuel 22 [.slice a len cap] = some x) : FlOk w a len := by
  rcases Deep.open_slice1 Try.underlying22 oc32 h with ⟨hcs, _⟩ | ⟨a', len', cap', m, n, V, D, Pl, hcs, _, hl, hm, hmm, _, hel⟩
  · simp at hcs
    obtain ⟨_, rfl, _⟩ := hcs
    exact ⟨Nat.zero_le _, .inl rfl⟩
  simp at hcs
  obtain ⟨rfl, rfl, rfl⟩ := hcs
  refine ⟨by omega, ?_⟩
  by_cases h0 : len = 0
  · exact .inl h0
  have hle : len ≤ m := by rw [hmm]; split <;> omega
  have each : ∀ i, i < len → ∃ p : Nat, w.cell? (a'.add i) = some (.float .f64 p) := by
    intro i hi
    obtain ⟨hc, ht⟩ := hel i (by omega)
    obtain ⟨p, hp⟩ := fld_float ht
    simp at hp
    exact ⟨p, by rw [hc, hp]⟩
  obtain ⟨f, hf⟩ := Deep.choose_lt each
  obtain ⟨b, off, spot⟩ := a'
  have c0 := hf 0 (by omega)
  have hspot : spot = none := by simpa [Addr.add] using World.cell?_spot c0
  subst hspot
  have hb : b < w.heap.size := by simpa [Addr.add] using World.block_lt_of_cell? w _ c0
  refine .inr ⟨b, off, f, rfl, hb, fun i hi => ?_⟩
  have := hf i hi
  simp only [add_plain] at this
  exact this
end

theorem walk (a : Option Addr) (len cap : Nat) (head n k : Int) (w : World) (h0 : FlOk w a len) :
    Calls Try.prog 3 #[.slice a len cap, .int .i64 head, .int .i64 n, .int .i64 k] w fun e w' => e = .returned (.bool true) ∧ Below w.heap.size w w' := by
  obtain ⟨hm, hc⟩ := h0
  have same : ∀ e w', (e = Ending.returned (.bool true) ∧ w = w') → e = Ending.returned (.bool true) ∧ Below w.heap.size w w' := by
    rintro e w' ⟨rfl, rfl⟩
    exact ⟨rfl, Below.refl _ _⟩
  by_cases h1 : 1048576 < len
  · exact (f3_huge a len cap head n k w h1 hm).mono same
  by_cases h2 : 131072 < len
  · exact (f3_big a len cap head n k w (by omega) h2).mono same
  by_cases h3 : len = 0 ∨ head < 0 ∨ (len : Int) ≤ head ∨ n < 0 ∨ (len : Int) < n ∨ k < 0 ∨ n < k
  · exact (f3_out a len cap head n k w (by omega) h3).mono same
  rcases hc with hc | ⟨b, off, F, rfl, hb, hc⟩
  · exact absurd (.inl hc) h3
  obtain ⟨head', rfl⟩ := Int.eq_ofNat_of_zero_le (show 0 ≤ head by omega)
  obtain ⟨n', rfl⟩ := Int.eq_ofNat_of_zero_le (show 0 ≤ n by omega)
  obtain ⟨k', rfl⟩ := Int.eq_ofNat_of_zero_le (show 0 ≤ k by omega)
  exact f3_in b off len cap head' n' k' (n' - k') F w (by omega) hb hc (by omega) (by omega) (by omega) (by omega)

set_option maxRecDepth 100000 in
theorem lifted (os : Os) (started : os.Started) (H : Type) (enc : TypeId × Value → H) :
    ReturnsInHanded {} Try.checked os 3 .any (Rows.fnRingPopDropsTheOldestSpec.pre6 enc Try.prog Try.f3 Rows.fnRingPopDropsTheOldestRow.domain false) (Rows.fnRingPopDropsTheOldestSpec.post enc Try.prog Try.f3 false true false false) := by
  refine returnsInHanded_of_change (C := Try.checked) own started (by kernel_rfl) Try.func3
    (ChangeSpec.witness6 (enc := enc) (C := Try.checked) false ⟨#[], #[.slice none 0 0, .int .i64 0, .int .i64 0, .int .i64 0], []⟩ 8 (by kernel_rfl) (by kernel_rfl) (by kernel_rfl) (by kernel_rfl)) ?_
  intro W base args ds gs before hval0 hW hcnd _
  have hval : ∀ (j : Nat) t v, Try.f3.params[j]? = some t → args[j]? = some v → Value.okWide Try.prog W .any base t v := hval0
  have hW' := hW
  obtain ⟨p, q, hA0, hV, rfl, hfz, hnd⟩ := hW
  have hA : DataW.TrodAll enc Try.prog W 0 (fun _ => true) true Try.f3.params.toList args.toList ds p := hA0
  rw [Try.params3] at hA hval
  obtain ⟨v0, vs0, d0, ds0, p0, q0, hargs, rfl, rfl, h0, r0⟩ := trodAll_cons hA
  obtain ⟨v1, vs1, d1, ds1, p1, q1, rfl, rfl, rfl, h1, r1⟩ := trodAll_cons r0
  obtain ⟨v2, vs2, d2, ds2, p2, q2, rfl, rfl, rfl, h2, r2⟩ := trodAll_cons r1
  obtain ⟨v3, vs3, d3, ds3, p3, q3, rfl, rfl, rfl, h3, r3⟩ := trodAll_cons r2
  obtain ⟨rfl, rfl, rfl⟩ := trodAll_nil r3
  obtain rfl : args = #[v0, v1, v2, v3] := by cases args; simp_all
  obtain ⟨rfl, rfl⟩ := trodVars_none hV
  obtain ⟨a0, len0, cap0, rfl⟩ := okWide_slice Try.underlying22 (hval 0 22 v0 rfl rfl)
  have k0 := h0
  have lt0 : ∀ x ∈ p0, x.block < W.heap.size := by obtain ⟨m, hm⟩ := k0; exact DataW.trod_lt m _ _ _ hm
  have w0 : FlOk W a0 len0 := by
    obtain ⟨fuel, hf⟩ := h0
    exact fl_open hf
  obtain ⟨a1, rfl, rfl, rfl, w1⟩ := open_int Try.underlying3 (hval 1 3 v1 rfl rfl) h1
  obtain ⟨a2, rfl, rfl, rfl, w2⟩ := open_int Try.underlying3 (hval 2 3 v2 rfl rfl) h2
  obtain ⟨a3, rfl, rfl, rfl, w3⟩ := open_int Try.underlying3 (hval 3 3 v3 rfl rfl) h3
  clear hA0 hval0
  refine (walk a0 len0 cap0 a1 a2 a3 W w0).mono fun e W' ⟨he, bel⟩ => ?_
  subst he
  exact ⟨_, rfl, _, _, _, [], _, [], hW', trodAll_mk1 (shut_bool Try.underlying4 _), (trodAll_cons_mk (Below.trod laidOut (by kernel_rfl) (of_decide_eq_true (by kernel_rfl)) k0 bel lt0) (trodAll_cons_mk (shut_int Try.underlying3 w1) (trodAll_cons_mk (shut_int Try.underlying3 w2) (trodAll_cons_mk (shut_int Try.underlying3 w3) trodAll_mk0)))), rfl, bel.frame _, fun h => by cases h⟩

theorem over : Rows.fnRingPopDropsTheOldestRow.holds Try.pinned (OpenSpec.ofChange Rows.fnRingPopDropsTheOldestSpec) :=
  OpenClaim.holds_of_wide 3 Try.f3 rfl rfl rfl rfl rfl rfl rfl ⟨rfl, rfl, rfl, rfl, rfl⟩ rfl rfl rfl rfl rfl (by kernel_rfl) Try.func3 (by kernel_rfl)
    (of_decide_eq_true (by kernel_rfl)) (by unfold Func.isWrapper; first | (rw [if_pos (by decide +kernel)]; kernel_rfl) | (rw [if_neg (by decide +kernel)]; exact ⟨rfl, rfl⟩))
    (fun os started H enc _ => lifted os started H enc)

theorem proved : Rows.FnRingPopDropsTheOldestSaid := over
end Go.Proofs.Qxb6613802a.Ring
