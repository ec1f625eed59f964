import Derived.Test.Qxb6613802aDecH
import Derived.ProofKit
import Derived.OpenShut
import Derived.Deep.Slices
import Derived.Deep.Strs
import Derived.ChangeOld
namespace Go.Proofs.Qxb6613802a.Dec
open Go.ChangeShapes Go.WideShapes Go.ChangeAt Go.RowKit

theorem oc3 : Try.prog.cellsOf 3 = 1 := by kernel_rfl
theorem oc2 : Try.prog.cellsOf 2 = 1 := by kernel_rfl
theorem oc32 : Try.prog.cellsOf 32 = 1 := by kernel_rfl
theorem oc33 : Try.prog.cellsOf 33 = 1 := by kernel_rfl
theorem oc49 : Try.prog.cellsOf 49 = 3 := by kernel_rfl
theorem oc35 : Try.prog.cellsOf 35 = 23 := by kernel_rfl

section
variable {H : Type} {enc : TypeId × Value → H} {w : World} {spare : Nat → Bool} {held : Bool} {fuel : Nat} {cs : List Value} {o : Option (DataW H × List MemPlace)}

theorem fld_int {t : TypeId} {k : IntKind} (ht : Try.prog.underlying t = some (.int k)) (h : DataW.trod enc Try.prog w 0 spare held fuel t cs = o) (ho : o.isSome = true) : ∃ n, cs = [.int k n] ∧ (Lit.int k n).wf = true := by
  obtain ⟨x, hx⟩ := Option.isSome_iff_exists.1 ho
  obtain ⟨n, h1, _, h2⟩ := DataW.trod_int ht (h.trans hx)
  exact ⟨n, h1, h2⟩
theorem fld_float (h : DataW.trod enc Try.prog w 0 spare held fuel 32 cs = o) (ho : o.isSome = true) : ∃ n, cs = [.float .f64 n] := by
  obtain ⟨x, hx⟩ := Option.isSome_iff_exists.1 ho
  rw [hx] at h
  cases fuel with
  | zero => simp [DataW.trod] at h
  | succ n =>
    unfold DataW.trod at h
    rw [Try.underlying32] at h
    split at h <;> simp_all
theorem lim_open (h : DataW.trod enc Try.prog w 0 spare held fuel 33 cs = o) (ho : o.isSome = true) : ∃ a l c, cs = [.slice a l c] ∧ LimOk w a l c ∧ l ≤ maxLen := by
  obtain ⟨x, hx⟩ := Option.isSome_iff_exists.1 ho
  rcases Deep.open_slice Try.underlying33 (h.trans hx) with ⟨rfl, _⟩ | ⟨a, len, cap, m, n, D, Pl, rfl, _, hl, hm, hmm, _, hel⟩
  · exact ⟨none, 0, 0, rfl, .inl ⟨rfl, rfl, rfl⟩, Nat.zero_le _⟩
  refine ⟨some a, len, cap, rfl, ?_, by omega⟩
  by_cases h0 : len = 0
  · exact .inr (.inl ⟨h0, rfl⟩)
  have hle : len ≤ m := by rw [hmm]; split <;> omega
  rw [oc49] at hel
  have each : ∀ i, i < len → ∃ (p : Int × Nat × Nat), w.cell? ((a.add (i * 3)).add 0) = some (.int .i64 p.1) ∧ w.cell? ((a.add (i * 3)).add 1) = some (.float .f64 p.2.1) ∧ w.cell? ((a.add (i * 3)).add 2) = some (.float .f64 p.2.2) := by
    intro i hi
    obtain ⟨cs', hc, ht⟩ := hel i (by omega)
    obtain ⟨_, hlen, hcell⟩ := World.cells?_some hc
    obtain ⟨y0, y1, y2, n', _, _, t0, t1, t2⟩ := Deep.trod_struct3 Try.underlying49 ht
    obtain ⟨p0, q0, _⟩ := fld_int Try.underlying3 t0 rfl
    obtain ⟨p1, q1⟩ := fld_float t1 rfl
    obtain ⟨p2, q2⟩ := fld_float t2 rfl
    match cs', hlen with
    | [u0, u1, u2], _ =>
      simp [oc3, oc32] at q0 q1 q2
      subst q0 q1 q2
      exact ⟨(p0, p1, p2), by simpa using hcell 0 (by omega), by simpa using hcell 1 (by omega), by simpa using hcell 2 (by omega)⟩
  obtain ⟨f, hf⟩ := Deep.choose_lt each
  obtain ⟨b, off, spot⟩ := a
  have c0 := (hf 0 (by omega)).1
  have hspot : spot = none := by simpa [Addr.add] using World.cell?_spot c0
  subst hspot
  have hb : b < w.heap.size := by simpa [Addr.add] using World.block_lt_of_cell? w _ c0
  refine .inr (.inr ⟨b, off, fun i => (f i).1, fun i => (f i).2.1, fun i => (f i).2.2, rfl, hb, fun i hi => ?_⟩)
  have := hf i hi
  simp only [add_plain] at this
  exact this
end

theorem array23 {α : Type} {cs : Array α} (h : cs.size = 23) : ∃ c0 c1 c2 c3 c4 c5 c6 c7 c8 c9 c10 c11 c12 c13 c14 c15 c16 c17 c18 c19 c20 c21 c22, cs = #[c0, c1, c2, c3, c4, c5, c6, c7, c8, c9, c10, c11, c12, c13, c14, c15, c16, c17, c18, c19, c20, c21, c22] := by
  obtain ⟨l⟩ := cs
  match l, h with
  | [c0, c1, c2, c3, c4, c5, c6, c7, c8, c9, c10, c11, c12, c13, c14, c15, c16, c17, c18, c19, c20, c21, c22], _ => exact ⟨c0, c1, c2, c3, c4, c5, c6, c7, c8, c9, c10, c11, c12, c13, c14, c15, c16, c17, c18, c19, c20, c21, c22, rfl⟩

end Go.Proofs.Qxb6613802a.Dec

