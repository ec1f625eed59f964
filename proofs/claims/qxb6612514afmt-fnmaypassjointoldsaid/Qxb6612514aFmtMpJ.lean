import Derived.Test.Qxb6612514aFmtMpE
namespace Go.Proofs.Qxb6612514aFmt.Mp
open Go.RowKit Go.Extern.Stop Go.Stop Go.Extern

theorem mk2 (w : World) : (Instr.makeSlice 61 (.int .i64 0) (.int .i64 2)).run Tryf.prog w = .ok (.slice (some ⟨w.heap.size, 0, none⟩) 0 2) (w.alloc (.cells #[.nilIface, .nilIface] 38)) := by kernel_rfl
theorem mk1 (w : World) : (Instr.makeSlice 61 (.int .i64 0) (.int .i64 1)).run Tryf.prog w = .ok (.slice (some ⟨w.heap.size, 0, none⟩) 0 1) (w.alloc (.cells #[.nilIface] 38)) := by kernel_rfl

/-- A *errors.joinError over one or two errors. -/
def Join1 (w : World) (v x : Value) : Prop := ∃ j b, v = .iface 62 (.pointer (some ⟨j, 0, none⟩)) ∧ w.cell? ⟨j, 0, none⟩ = some (.slice (some ⟨b, 0, none⟩) 1 1) ∧ w.cell? ⟨b, 0, none⟩ = some x
def Join2 (w : World) (v x y : Value) : Prop := ∃ j b, v = .iface 62 (.pointer (some ⟨j, 0, none⟩)) ∧ w.cell? ⟨j, 0, none⟩ = some (.slice (some ⟨b, 0, none⟩) 2 2) ∧ w.cell? ⟨b, 0, none⟩ = some x ∧ w.cell? ⟨b, 1, none⟩ = some y

set_option maxRecDepth 100000 in
set_option maxHeartbeats 1600000 in
theorem join_nn (vb : Nat) (w : World) (h0 : w.cell? ⟨vb, 0, none⟩ = some (.nilIface)) (h1 : w.cell? ⟨vb, 1, none⟩ = some (.nilIface)) :
    Calls Tryf.prog 18 #[.slice (some ⟨vb, 0, none⟩) 2 2] w fun r w' => r = .returned .nilIface ∧ Below w.heap.size w w' := by
  have hvb : vb < w.heap.size := World.block_lt_of_cell? w ⟨vb, 0, none⟩ h0
  have hvb1 : vb < w.heap.size + 1 := by omega
  have hvb2 : vb < w.heap.size + 1 + 1 := by omega
  have hvb3 : vb < w.heap.size + 1 + 1 + 1 := by omega
  have q1 := mk1
  have q2 := mk2
  go_enter Tryf.func18, Tryf.ntmps18
  go_wp2
  refine wp_loop_rounds 3 ?_
  rw [rounds_succ]
  go_wp2
  rw [rounds_succ]
  go_wp2
  rw [rounds_succ]
  go_wp2
  go_ret
  exact ⟨rfl, Below.refl _ _⟩

set_option maxRecDepth 100000 in
set_option maxHeartbeats 1600000 in
theorem join_xn (vb : Nat) (x : Value) (w : World) (h0 : w.cell? ⟨vb, 0, none⟩ = some (.iface 74 x)) (h1 : w.cell? ⟨vb, 1, none⟩ = some (.nilIface)) :
    Calls Tryf.prog 18 #[.slice (some ⟨vb, 0, none⟩) 2 2] w fun r w' => (∃ v, r = .returned v ∧ Join1 w' v (.iface 74 x)) ∧ Below w.heap.size w w' := by
  have hvb : vb < w.heap.size := World.block_lt_of_cell? w ⟨vb, 0, none⟩ h0
  have hvb1 : vb < w.heap.size + 1 := by omega
  have hvb2 : vb < w.heap.size + 1 + 1 := by omega
  have hvb3 : vb < w.heap.size + 1 + 1 + 1 := by omega
  have q1 := mk1
  have q2 := mk2
  go_enter Tryf.func18, Tryf.ntmps18
  go_wp2
  refine wp_loop_rounds 3 ?_
  rw [rounds_succ]
  go_wp2
  rw [rounds_succ]
  go_wp2
  rw [rounds_succ]
  go_wp2
  refine wp_loop_rounds 3 ?_
  rw [rounds_succ]
  go_wp2
  rw [rounds_succ]
  go_wp2
  rw [rounds_succ]
  go_wp2
  go_ret
  refine ⟨⟨_, rfl, w.heap.size + 1, w.heap.size, rfl, ?_, ?_⟩, ?_⟩
  · go_simp
  · go_simp
  · exact (((Below.refl _ _).alloc (Nat.le_refl _) _).alloc (by simp) _).alloc (by simp; omega) _

set_option maxRecDepth 100000 in
set_option maxHeartbeats 1600000 in
theorem join_ny (vb : Nat) (y : Value) (w : World) (h0 : w.cell? ⟨vb, 0, none⟩ = some (.nilIface)) (h1 : w.cell? ⟨vb, 1, none⟩ = some (.iface 74 y)) :
    Calls Tryf.prog 18 #[.slice (some ⟨vb, 0, none⟩) 2 2] w fun r w' => (∃ v, r = .returned v ∧ Join1 w' v (.iface 74 y)) ∧ Below w.heap.size w w' := by
  have hvb : vb < w.heap.size := World.block_lt_of_cell? w ⟨vb, 0, none⟩ h0
  have hvb1 : vb < w.heap.size + 1 := by omega
  have hvb2 : vb < w.heap.size + 1 + 1 := by omega
  have hvb3 : vb < w.heap.size + 1 + 1 + 1 := by omega
  have q1 := mk1
  have q2 := mk2
  go_enter Tryf.func18, Tryf.ntmps18
  go_wp2
  refine wp_loop_rounds 3 ?_
  rw [rounds_succ]
  go_wp2
  rw [rounds_succ]
  go_wp2
  rw [rounds_succ]
  go_wp2
  refine wp_loop_rounds 3 ?_
  rw [rounds_succ]
  go_wp2
  rw [rounds_succ]
  go_wp2
  rw [rounds_succ]
  go_wp2
  go_ret
  refine ⟨⟨_, rfl, w.heap.size + 1, w.heap.size, rfl, ?_, ?_⟩, ?_⟩
  · go_simp
  · go_simp
  · exact (((Below.refl _ _).alloc (Nat.le_refl _) _).alloc (by simp) _).alloc (by simp; omega) _

set_option maxRecDepth 100000 in
set_option maxHeartbeats 1600000 in
theorem join_xy (vb : Nat) (x y : Value) (w : World) (h0 : w.cell? ⟨vb, 0, none⟩ = some (.iface 74 x)) (h1 : w.cell? ⟨vb, 1, none⟩ = some (.iface 74 y)) :
    Calls Tryf.prog 18 #[.slice (some ⟨vb, 0, none⟩) 2 2] w fun r w' => (∃ v, r = .returned v ∧ Join2 w' v (.iface 74 x) (.iface 74 y)) ∧ Below w.heap.size w w' := by
  have hvb : vb < w.heap.size := World.block_lt_of_cell? w ⟨vb, 0, none⟩ h0
  have hvb1 : vb < w.heap.size + 1 := by omega
  have hvb2 : vb < w.heap.size + 1 + 1 := by omega
  have hvb3 : vb < w.heap.size + 1 + 1 + 1 := by omega
  have q1 := mk1
  have q2 := mk2
  go_enter Tryf.func18, Tryf.ntmps18
  go_wp2
  refine wp_loop_rounds 3 ?_
  rw [rounds_succ]
  go_wp2
  rw [rounds_succ]
  go_wp2
  rw [rounds_succ]
  go_wp2
  refine wp_loop_rounds 3 ?_
  rw [rounds_succ]
  go_wp2
  rw [rounds_succ]
  go_wp2
  rw [rounds_succ]
  go_wp2
  go_ret
  refine ⟨⟨_, rfl, w.heap.size + 1, w.heap.size, rfl, ?_, ?_, ?_⟩, ?_⟩
  · go_simp
  · go_simp
  · go_simp
  · exact ((((Below.refl _ _).alloc (Nat.le_refl _) _).alloc (by simp) _).alloc (by simp; omega) _).alloc (by simp; omega) _


end Go.Proofs.Qxb6612514aFmt.Mp
