import Derived.Test.Qxb6613802aRows
import Derived.WalkKit
import Derived.WalkSpells
import Derived.WalkLawsBesides
import Derived.Deep.RegionHeld3
import Derived.BigRegion
import Derived.Lib.SliceRun
namespace Go.Proofs.Qxb6613802a.Dec
open Go.RowKit

theorem run_store_float {P : Program} {w : World} {a : Addr} {m : Mode} (k : FloatKind) (n : Nat) : (store a (.float k n) m).run P w = stored P w a (.float k n) m := run_store P w a _ m rfl
attribute [local go_sem] run_store_float

theorem info50 : (Try.prog.info? 50).map (fun i => (i.zero, i.size, i.bytes)) = some (some (.agg #[.int .i64 0, .float .f64 0, .float .f64 0]), 3, 24) := by kernel_rfl

theorem make_lim (w : World) (n : Nat) (hn : n ≤ 16384) :
    (Instr.makeSlice 38 (.int .i64 (n : Int)) (.int .i64 (n : Int))).run Try.prog w = .ok (.slice (some ⟨w.heap.size, 0, none⟩) n n) (w.alloc (.cells (madeCells #[.int .i64 0, .float .f64 0, .float .f64 0] (n * 3)) 50)) := by
  obtain ⟨i, hi, hz, h1, h2⟩ := info_parts info50
  have := run_make (P := Try.prog) w 38 50 i _ Try.underlying38 hi hz .i64 .i64 n n (by omega) (by omega) (by rw [h2]; omega) (by omega)
  simpa [h1, Value.cells] using this

theorem q33 (w : World) (a : Option Addr) (n c n' c' : Nat) : (binOp .eql 33 (.slice a n c) (.slice none n' c')).run Try.prog w = .ok (.bool a.isNone) w :=
  Lib.run_eql_slice_nil w 33 49 a n c n' c' Try.underlying33

set_option maxHeartbeats 400000 in
theorem lim_nil (w : World) :
    Calls Try.prog 18 #[.slice none 0 0] w fun e w' => e = .returned (.slice none 0 0) ∧ w' = w := by
  have q := q33
  go_enter Try.func18, Try.ntmps18
  go_wp2
  go_ret
  exact ⟨rfl, rfl⟩

set_option maxHeartbeats 400000 in
theorem lim_empty (a : Addr) (cap : Nat) (w : World) :
    Calls Try.prog 18 #[.slice (some a) 0 cap] w fun e w' => e = .returned (.slice (some ⟨w.heap.size, 0, none⟩) 0 0) ∧ Below w.heap.size w w' := by
  have q := q33
  have mk : ∀ w : World, (Instr.makeSlice 38 (.int .i64 0) (.int .i64 0)).run Try.prog w = .ok (.slice (some ⟨w.heap.size, 0, none⟩) 0 0) (w.alloc (.cells (madeCells #[.int .i64 0, .float .f64 0, .float .f64 0] (0 * 3)) 50)) := fun w => make_lim w 0 (by omega)
  go_enter Try.func18, Try.ntmps18
  go_wp2
  refine wp_loop_rounds 1 ?_
  rw [rounds_succ]
  go_wp2
  go_ret
  exact ⟨rfl, (Below.refl _ _).alloc (Nat.le_refl _) _⟩

theorem there_made (w : World) (n : Nat) : (w.alloc (.cells (madeCells #[.int .i64 0, .float .f64 0, .float .f64 0] (n * 3)) 50)).there w.heap.size 0 (n * 3) := by
  intro j hj
  constructor
  · simp [World.cell?_alloc_at, size_madeCells, hj]
  · simp

theorem set_off {w : World} {b o o' : Nat} {v u : Value} (h : o ≠ o') (e : w.cell? ⟨b, o', none⟩ = some u) : (w.setCell ⟨b, o, none⟩ v).cell? ⟨b, o', none⟩ = some u := by
  rw [World.cell?_setCell_other (h := fun q => h (by injection q))]; exact e

theorem there1 {w : World} {b n : Nat} (h : w.there b 0 n) (a : Addr) (v : Value) : (w.setCell a v).there b 0 n := by
  intro j hj
  obtain ⟨e, f⟩ := h j hj
  obtain ⟨x, e⟩ := Option.isSome_iff_exists.1 e
  obtain ⟨y, hy⟩ := cell?_setCell_some (p := a) (x := v) e
  exact ⟨by rw [hy]; rfl, by rw [World.frozen?_setCell]; exact f⟩

set_option maxHeartbeats 400000 in
theorem lim_some (b off len cap : Nat) (X : Nat → Int) (Y Z : Nat → Nat) (w : World) (hl : len ≤ 16384) (hb : b < w.heap.size)
    (hc : ∀ j, j < len → w.cell? ⟨b, off + j * 3, none⟩ = some (.int .i64 (X j)) ∧ w.cell? ⟨b, off + j * 3 + 1, none⟩ = some (.float .f64 (Y j)) ∧ w.cell? ⟨b, off + j * 3 + 2, none⟩ = some (.float .f64 (Z j))) :
    Calls Try.prog 18 #[.slice (some ⟨b, off, none⟩) len cap] w fun e w' => e = .returned (.slice (some ⟨w.heap.size, 0, none⟩) len len) ∧ Below w.heap.size w w' := by
  have q := q33
  have mk := fun w => make_lim w len hl
  go_enter Try.func18, Try.ntmps18
  go_wp2
  go_loopw [4] (fun i wr => ∃ k : Nat, k ≤ len ∧ i = .int .i64 k ∧ wr.there w.heap.size 0 (len * 3) ∧ Below w.heap.size w wr) (fun i _ => len - (intOf i).toNat)
  case atStart => exact ⟨0, Nat.zero_le _, rfl, there_made w len, (Below.refl _ _).alloc (Nat.le_refl _) _⟩
  case round =>
    obtain ⟨k, hk, rfl, hth, hbel⟩ := hrel
    by_cases hlt : k < len
    · obtain ⟨g0, g1, g2⟩ := hc k hlt
      have h0 : wr.cell? ⟨b, off + k * 3, none⟩ = some (.int .i64 (X k)) := (hbel.cell (by exact hb)).trans g0
      have h1 : wr.cell? ⟨b, off + k * 3 + 1, none⟩ = some (.float .f64 (Y k)) := (hbel.cell (by exact hb)).trans g1
      have h2 : wr.cell? ⟨b, off + k * 3 + 2, none⟩ = some (.float .f64 (Z k)) := (hbel.cell (by exact hb)).trans g2
      obtain ⟨e0, f0⟩ := hth (k * 3) (by omega)
      obtain ⟨e1, f1⟩ := hth (k * 3 + 1) (by omega)
      obtain ⟨e2, f2⟩ := hth (k * 3 + 2) (by omega)
      obtain ⟨x0, e0⟩ := Option.isSome_iff_exists.1 e0
      obtain ⟨x1, e1⟩ := Option.isSome_iff_exists.1 e1
      obtain ⟨x2, e2⟩ := Option.isSome_iff_exists.1 e2
      simp only [Nat.zero_add, ← Nat.add_assoc] at e0 f0 e1 f1 e2 f2
      have A1 : (wr.setCell ⟨w.heap.size, k * 3, none⟩ (.int .i64 (X k))).cell? ⟨w.heap.size, k * 3 + 1, none⟩ = some x1 := by
        exact set_off (by omega) e1
      have A2 : ((wr.setCell ⟨w.heap.size, k * 3, none⟩ (.int .i64 (X k))).setCell ⟨w.heap.size, k * 3 + 1, none⟩ (.float .f64 (Y k))).cell? ⟨w.heap.size, k * 3 + 2, none⟩ = some x2 := by
        exact set_off (by omega) (set_off (by omega) e2)
      have hne : w.heap.size ≠ b := by omega
      clear g0 g1 g2
      go_wp2
      go_region_held3 (fun w' => w'.cell? ⟨b, off + k * 3, none⟩ = some (.int .i64 (X k)) ∧ w'.cell? ⟨b, off + k * 3 + 1, none⟩ = some (.float .f64 (Y k)) ∧ w'.cell? ⟨b, off + k * 3 + 2, none⟩ = some (.float .f64 (Z k))) (go_keep) (fail)
      go_wp2
      go_roundw
      case rel => exact ⟨k + 1, by omega, by go_num, there1 (there1 (there1 hth _ _) _ _) _ _, ((((hbel.drew).setCell (by simp) _).setCell (by simp) _).setCell (by simp) _)⟩
      case measure => simp [intOf]; omega
    · go_wp2
      go_ret
      exact ⟨rfl, hbel⟩

end Go.Proofs.Qxb6613802a.Dec

