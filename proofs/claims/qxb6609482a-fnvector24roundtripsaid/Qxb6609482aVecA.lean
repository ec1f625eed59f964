import Derived.Test.Qxb6609482aRows
import Derived.WalkKit
import Derived.WalkSpells
import Derived.WalkLawsBesides
import Derived.Deep.RegionHeld3
import Derived.Lib.SliceRun
import Derived.Laws.BitsAllLaws
namespace Go.Proofs.Qxb6609482a.Vec
open Go.RowKit

theorem i64_or_nat (a b : Nat) (ha : a < 4611686018427387904) (hb : b < 4611686018427387904) :
    bits .or .i64 (a : Int) (b : Int) = ((a ||| b : Nat) : Int) := by
  have hx : a ||| b < 2 ^ 62 := Nat.or_lt_two_pow (by omega) (by omega)
  have h1 : (BitVec.ofInt 64 (a : Int)).toNat = a := by
    rw [BitVec.ofInt_natCast, BitVec.toNat_ofNat]; exact Nat.mod_eq_of_lt (by omega)
  have h2 : (BitVec.ofInt 64 (b : Int)).toNat = b := by
    rw [BitVec.ofInt_natCast, BitVec.toNat_ofNat]; exact Nat.mod_eq_of_lt (by omega)
  show IntKind.i64.wrap ((BitVec.ofInt 64 (a : Int) ||| BitVec.ofInt 64 (b : Int)).toNat : Int) = _
  rw [BitVec.toNat_or, h1, h2, IntKind.wrap_i64]
  omega

/-- 'v<<8 | c', v small, c a byte. -/
theorem join8 (v c : Nat) (hv : v < 65536) (hc : c < 256) : bits .or .i64 ((v : Int) * 256) (c : Int) = ((v * 256 + c : Nat) : Int) := by
  have := i64_or_nat (v * 256) c (by omega) (by omega)
  rw [nat_join 8 (v * 256) c (by omega) (by omega)] at this
  simpa using this

/-- The address of 's[n:]' of a slice of bytes of capacity cap. -/
def cutA (a : Option Addr) (cap n : Nat) : Option Addr := if cap = n then a else a.map (·.add n)

def slRun (P : Program) (v : Value) (lo hi mx : Option Value) (w : World) : Result Next := ((do pure (.value (← Instr.sliceAt 22 v lo hi mx))) : Sem Next).run P w
theorem exec_slice (ρ : Operand → Value) (dst : Option Tmp) (x : Operand) (lo hi mx : Option Operand) (ty : TypeId) (pos : String) (after : Array Edge) (guard : Option (Nat × Bool)) (w : World) :
    (execOp ρ ⟨dst, .slice 22 x lo hi mx, ty, pos, after, guard⟩).run Try.prog w = slRun Try.prog (ρ x) (lo.map ρ) (hi.map ρ) (mx.map ρ) w := rfl

theorem info5 : (Try.prog.info? 5).map (fun i => (i.zero, i.size, i.bytes)) = some (some (.int .u8 0), 1, 1) := by kernel_rfl
theorem sl_to (a : Option Addr) (len cap n : Nat) (w : World) (h : n ≤ cap) :
    slRun Try.prog (.slice a len cap) none (some (.int .i64 (n : Int))) (some (.int .i64 (n : Int))) w = .ok (.value (.slice a n n)) w := by
  have e : (if n = 0 then a else a.map fun x => x.add (0 * 1)) = a := by
    split
    · rfl
    · cases a <;> simp [Addr.add]
  unfold slRun Instr.sliceAt Instr.slice Instr.sliceBounds
  simp [Sem.run_bind, run_underlying Try.underlying22, run_sliceBound, h]
  cases a <;> simp [Addr.add]

theorem sl_from (a : Option Addr) (len cap n : Nat) (w : World) (h : n ≤ len) :
    slRun Try.prog (.slice a len cap) (some (.int .i64 (n : Int))) none none w = .ok (.value (.slice (cutA a cap n) (len - n) (cap - n))) w := by
  unfold slRun Instr.sliceAt Instr.slice Instr.sliceBounds
  simp [Sem.run_bind, run_underlying Try.underlying22, run_sliceBound, h, cutA]

theorem sl_mid (a : Option Addr) (len cap l n : Nat) (w : World) (h : l ≤ n) (hc : n ≤ cap) :
    slRun Try.prog (.slice a len cap) (some (.int .i64 (l : Int))) (some (.int .i64 (n : Int))) none w = .ok (.value (.slice (cutA a cap l) (n - l) (cap - l))) w := by
  unfold slRun Instr.sliceAt Instr.slice Instr.sliceBounds
  simp [Sem.run_bind, run_underlying Try.underlying22, run_sliceBound, h, hc, cutA]

/-- A reader in block r, its flag in block f. -/
def RdAt (w : World) (r f : Nat) (v : Value) (fl : Bool) : Prop :=
  w.cell? ⟨r, 0, none⟩ = some v ∧ w.cell? ⟨r, 1, none⟩ = some (.pointer (some ⟨f, 0, none⟩)) ∧ w.cell? ⟨f, 0, none⟩ = some (.bool fl) ∧
  w.frozen? ⟨r, 0, none⟩ = false ∧ w.frozen? ⟨f, 0, none⟩ = false

theorem RdAt.below {w w' : World} {r f B : Nat} {v : Value} {fl : Bool} (h : RdAt w r f v fl) (hb : Below B w w') (hr : r < B) (hf : f < B) : RdAt w' r f v fl := by
  obtain ⟨h0, h1, h2, f0, f1⟩ := h
  exact ⟨(hb.cell (by exact hr)).trans h0, (hb.cell (by exact hr)).trans h1, (hb.cell (by exact hf)).trans h2, (hb.frozen (by exact hr)).trans f0, (hb.frozen (by exact hf)).trans f1⟩

theorem RdAt.set {w : World} {r f : Nat} {v : Value} {fl : Bool} (h : RdAt w r f v fl) (hne : f < r) (u : Value) : RdAt (w.setCell ⟨r, 0, none⟩ u) r f u fl := by
  obtain ⟨h0, h1, h2, f0, f1⟩ := h
  refine ⟨World.cell?_setCell_same _ _ _ h0, ?_, ?_, by simp [f0], by simp [f1]⟩
  · rw [World.cell?_setCell_other (h := by simp)]; exact h1
  · rw [World.cell?_setCell_other (h := fun q => by injection q; omega)]; exact h2

theorem RdAt.setFlag {w : World} {r f : Nat} {v : Value} {fl : Bool} (h : RdAt w r f v fl) (hne : f < r) (b : Bool) : RdAt (w.setCell ⟨f, 0, none⟩ (.bool b)) r f v b := by
  obtain ⟨h0, h1, h2, f0, f1⟩ := h
  refine ⟨?_, ?_, World.cell?_setCell_same _ _ _ h2, by simp [f0], by simp [f1]⟩
  · rw [World.cell?_setCell_other (h := fun q => by injection q; omega)]; exact h0
  · rw [World.cell?_setCell_other (h := fun q => by injection q; omega)]; exact h1

theorem below_set {w : World} {f r : Nat} (hne : f < r) (u : Value) : Below f w (w.setCell ⟨r, 0, none⟩ u) := (Below.refl _ _).setCell (p := ⟨r, 0, none⟩) (by show f ≤ r; omega) u

set_option maxHeartbeats 400000 in
theorem take_bad (r f len cap : Nat) (a : Option Addr) (fl : Bool) (n : Int) (w : World) (hr : RdAt w r f (.slice a len cap) fl) (hne : f < r) (hbad : fl = true ∨ (len : Int) < n) :
    Calls Try.prog 17 #[.pointer (some ⟨r, 0, none⟩), .int .i64 n] w fun e w' => e = .returned (.slice none 0 0) ∧ RdAt w' r f (.slice none 0 0) true ∧ Below f w w' ∧ w'.heap.size = w.heap.size := by
  have H := (hr.setFlag hne true).set hne (.slice none 0 0)
  have H2 : Hid (RdAt ((w.setCell ⟨f, 0, none⟩ (.bool true)).setCell ⟨r, 0, none⟩ (.slice none 0 0)) r f (.slice none 0 0) true) := H
  obtain ⟨g0, g1, g2, k0, k1⟩ := hr.setFlag hne true
  obtain ⟨h0, h1, h2, f0, f1⟩ := hr
  clear H
  have fin : Below f w ((w.setCell ⟨f, 0, none⟩ (.bool true)).setCell ⟨r, 0, none⟩ (.slice none 0 0)) := ((Below.refl _ _).setCell (p := ⟨f, 0, none⟩) (Nat.le_refl f) _).setCell (p := ⟨r, 0, none⟩) (by show f ≤ r; omega) _
  cases fl with
  | true =>
    clear hbad
    go_enter Try.func17, Try.ntmps17
    go_wp2
    go_ret
    exact ⟨rfl, H2, fin, by simp⟩
  | false =>
    have hlt : (len : Int) < n := by simpa using hbad
    clear hbad
    go_enter Try.func17, Try.ntmps17
    go_wp2
    go_ret
    exact ⟨rfl, H2, fin, by simp⟩

attribute [local go_sem ↓] exec_slice
set_option maxHeartbeats 400000 in
theorem take_ok (r f len cap n : Nat) (a : Option Addr) (w : World) (hr : RdAt w r f (.slice a len cap) false) (hne : f < r) (hn : n ≤ len) (hc : len ≤ cap) :
    Calls Try.prog 17 #[.pointer (some ⟨r, 0, none⟩), .int .i64 (n : Int)] w fun e w' => e = .returned (.slice a n n) ∧ RdAt w' r f (.slice (cutA a cap n) (len - n) (cap - n)) false ∧ Below f w w' ∧ w'.heap.size = w.heap.size := by
  have H : Hid (RdAt (w.setCell ⟨r, 0, none⟩ (.slice (cutA a cap n) (len - n) (cap - n))) r f (.slice (cutA a cap n) (len - n) (cap - n)) false) := hr.set hne _
  obtain ⟨h0, h1, h2, f0, f1⟩ := hr
  have s1 := sl_to a len cap n w (by omega)
  have s2 := sl_from a len cap n w hn
  have hle : ¬ (len : Int) < (n : Int) := by omega
  go_enter Try.func17, Try.ntmps17
  go_wp2
  go_ret
  exact ⟨rfl, H, below_set hne _, by simp⟩

end Go.Proofs.Qxb6609482a.Vec
