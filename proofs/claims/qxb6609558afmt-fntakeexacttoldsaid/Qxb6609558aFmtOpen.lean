import Derived.Test.Qxb6609558aFmtClmG
import Derived.ProofKit
import Derived.OpenShut
import Derived.ShutString
import Derived.Deep.Slices
import Derived.Deep.Strs
import Derived.ChangeOld
import Derived.Stop.JoinedTold
import Derived.SizedLaws
import Derived.SevenToldRow
namespace Go.Proofs.Qxb6609558aFmt.Clm
open Go.ChangeShapes Go.WideShapes Go.ChangeAt Go.RowKit

theorem own : ownKnob Tryf.prog.godebug = none := by kernel_rfl
theorem laidOut : laidOutB Tryf.prog = true := by kernel_rfl
theorem laidOut' : laidOutB Tryf.pinned.checked.prog = true := by kernel_rfl
theorem stops : Tryf.pinned.checked.prog.stops = ["fmt.errorf"] := by kernel_rfl
theorem stopKnobs : Tryf.pinned.checked.prog.stopKnobs = [] := by kernel_rfl
theorem quiet (os : Os) : Stop.quiet Tryf.pinned.checked.prog os := by
  intro k hk
  rw [stopKnobs] at hk
  cases hk
theorem oc9 : Tryf.prog.cellsOf 9 = 1 := by kernel_rfl
theorem oc4 : Tryf.prog.cellsOf 4 = 1 := by kernel_rfl

section
variable {H : Type} {enc : TypeId × Value → H} {w : World} {spare : Nat → Bool} {held : Bool} {fuel : Nat}

theorem str_open {a : Option Addr} {len cap : Nat} {x : DataW H × List MemPlace} (h : DataW.trod enc Tryf.prog w 0 spare held fuel 22 [.slice a len cap] = some x) :
    ∃ S, SR w a len S ∧ (a = none → len = 0) ∧ len ≤ maxLen := by
  rcases Deep.open_strs Tryf.underlying22 Tryf.underlying9 oc9 h with ⟨hcs, _⟩ | ⟨a', len', cap', m, S, hcs, _, hl, hm, hmm, _, hel⟩
  · simp at hcs
    obtain ⟨_, rfl, _⟩ := hcs
    exact ⟨fun _ => ByteArray.empty, .inl rfl, fun _ => rfl, Nat.zero_le _⟩
  simp at hcs
  obtain ⟨rfl, rfl, rfl⟩ := hcs
  refine ⟨S, ?_, (fun q => by cases q), by omega⟩
  by_cases h0 : len = 0
  · exact .inl h0
  have hle : len ≤ m := by rw [hmm]; split <;> omega
  obtain ⟨b, off, spot⟩ := a'
  have c0 := (hel 0 (by omega)).1
  have hspot : spot = none := by simpa [Addr.add] using World.cell?_spot c0
  subst hspot
  have hb : b < w.heap.size := by simpa [Addr.add] using World.block_lt_of_cell? w _ c0
  refine .inr ⟨b, off, rfl, hb, fun i hi => ?_⟩
  have := (hel i (by omega)).1
  rw [add_plain] at this
  exact this

theorem fld_bool {cs : List Value} {x : DataW H × List MemPlace} (h : DataW.trod enc Tryf.prog w 0 spare held fuel 4 cs = some x) : ∃ b, cs = [.bool b] := by
  cases fuel with
  | zero => simp [DataW.trod] at h
  | succ n =>
    unfold DataW.trod at h
    rw [Tryf.underlying4] at h
    split at h <;> simp_all

theorem bool_open {a : Option Addr} {len cap : Nat} {x : DataW H × List MemPlace} (h : DataW.trod enc Tryf.prog w 0 spare held fuel 23 [.slice a len cap] = some x) :
    ∃ S, BR w a len S ∧ (a = none → len = 0) ∧ len ≤ maxLen := by
  rcases Deep.open_slice1 Tryf.underlying23 oc4 h with ⟨hcs, _⟩ | ⟨a', len', cap', m, n, V, D, Pl, hcs, _, hl, hm, hmm, _, hel⟩
  · simp at hcs
    obtain ⟨_, rfl, _⟩ := hcs
    exact ⟨fun _ => false, .inl rfl, fun _ => rfl, Nat.zero_le _⟩
  simp at hcs
  obtain ⟨rfl, rfl, rfl⟩ := hcs
  by_cases h0 : len = 0
  · exact ⟨fun _ => false, .inl h0, (fun q => by cases q), by omega⟩
  have hle : len ≤ m := by rw [hmm]; split <;> omega
  have each : ∀ i, i < len → ∃ p : Bool, w.cell? (a'.add i) = some (.bool p) := by
    intro i hi
    obtain ⟨hc, ht⟩ := hel i (by omega)
    obtain ⟨p, hp⟩ := fld_bool ht
    simp at hp
    exact ⟨p, by rw [hc, hp]⟩
  obtain ⟨f, hf⟩ := Deep.choose_lt each
  obtain ⟨b, off, spot⟩ := a'
  have c0 := hf 0 (by omega)
  have hspot : spot = none := by simpa [Addr.add] using World.cell?_spot c0
  subst hspot
  have hb : b < w.heap.size := by simpa [Addr.add] using World.block_lt_of_cell? w _ c0
  refine ⟨f, .inr ⟨b, off, rfl, hb, fun i hi => ?_⟩, (fun q => by cases q), by omega⟩
  have := hf i hi
  rw [add_plain] at this
  exact this
end

end Go.Proofs.Qxb6609558aFmt.Clm
