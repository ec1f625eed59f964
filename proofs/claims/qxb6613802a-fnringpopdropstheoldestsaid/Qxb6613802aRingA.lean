import Derived.Test.Qxb6613802aRows
import Derived.WalkKit
import Derived.WalkSpells
import Derived.WalkLawsBesides
import Derived.Deep.RegionHeld3
import Derived.Lib.SliceRun
namespace Go.Proofs.Qxb6613802a.Ring
open Go.RowKit

theorem run_store_float {P : Program} {w : World} {a : Addr} {m : Mode} (k : FloatKind) (n : Nat) : (store a (.float k n) m).run P w = stored P w a (.float k n) m := run_store P w a _ m rfl
attribute [local go_sem] run_store_float

theorem info32 : (Try.prog.info? 32).map (fun i => (i.zero, i.size, i.bytes)) = some (some (.float .f64 0), 1, 8) := by kernel_rfl

/-- A row of n floats in block b, from its head on. -/
def RowF (w : World) (b n : Nat) (F : Nat → Nat) : Prop := ∀ j, j < n → w.cell? ⟨b, j, none⟩ = some (.float .f64 (F j))
theorem RowF.below {w w' : World} {b n B : Nat} {F : Nat → Nat} (h : RowF w b n F) (hb : Below B w w') (hlt : b < B) : RowF w' b n F := fun j hj => (hb.cell (by exact hlt)).trans (h j hj)

/-- A row of n cells that may be written; the first k are told. -/
def Fills (w : World) (b n k : Nat) (F : Nat → Nat) : Prop :=
  (∀ j, j < n → (w.cell? ⟨b, j, none⟩).isSome = true ∧ w.frozen? ⟨b, j, none⟩ = false) ∧ ∀ j, j < k → w.cell? ⟨b, j, none⟩ = some (.float .f64 (F j))

theorem Fills.new (w : World) (n : Nat) (F : Nat → Nat) : Fills (w.alloc (.cells (madeCells #[.float .f64 0] n) 32)) w.heap.size n 0 F := by
  refine ⟨fun j hj => ⟨?_, by simp⟩, fun j hj => absurd hj (by omega)⟩
  simp [size_madeCells, hj]

theorem Fills.step {w : World} {b n k : Nat} {F : Nat → Nat} (h : Fills w b n k F) (hk : k < n) : Fills (w.setCell ⟨b, k, none⟩ (.float .f64 (F k))) b n (k + 1) F := by
  refine ⟨fun j hj => ?_, fun j hj => ?_⟩
  · obtain ⟨e, f⟩ := h.1 j hj
    obtain ⟨x, e⟩ := Option.isSome_iff_exists.1 e
    obtain ⟨y, hy⟩ := cell?_setCell_some (p := ⟨b, k, none⟩) (x := .float .f64 (F k)) e
    exact ⟨by rw [hy]; rfl, by rw [World.frozen?_setCell]; exact f⟩
  · by_cases e : j = k
    · subst e
      obtain ⟨x, hx⟩ := Option.isSome_iff_exists.1 (h.1 j hk).1
      exact World.cell?_setCell_same _ _ _ hx
    · rw [World.cell?_setCell_other (h := fun q => e (by injection q with _ q; exact q.symm))]
      exact h.2 j (by omega)

theorem make_row (w : World) (n : Nat) (hn : n ≤ 131072) :
    (Instr.makeSlice 22 (.int .i64 (n : Int)) (.int .i64 (n : Int))).run Try.prog w = .ok (.slice (some ⟨w.heap.size, 0, none⟩) n n) (w.alloc (.cells (madeCells #[.float .f64 0] n) 32)) := by
  obtain ⟨i, hi, hz, h1, h2⟩ := info_parts info32
  have := run_make (P := Try.prog) w 22 32 i _ Try.underlying22 hi hz .i64 .i64 n n (by omega) (by omega) (by rw [h2]; omega) (by omega)
  simpa [h1, Value.cells] using this

theorem q22 (w : World) (a : Option Addr) (n c n' c' : Nat) : (binOp .eql 22 (.slice a n c) (.slice none n' c')).run Try.prog w = .ok (.bool a.isNone) w :=
  Lib.run_eql_slice_nil w 22 32 a n c n' c' Try.underlying22

set_option maxHeartbeats 400000 in
theorem clone_some (b off len cap : Nat) (F : Nat → Nat) (w : World) (hl : len ≤ 131072) (hb : b < w.heap.size) (hc : Hid (∀ j, j < len → w.cell? ⟨b, off + j, none⟩ = some (.float .f64 (F j)))) :
    Calls Try.prog 6 #[.slice (some ⟨b, off, none⟩) len cap] w fun e w' => e = .returned (.slice (some ⟨w.heap.size, 0, none⟩) len len) ∧ RowF w' w.heap.size len F ∧ Below w.heap.size w w' ∧ w.heap.size < w'.heap.size := by
  have q := q22
  have mk := fun w => make_row w len hl
  go_enter Try.func6, Try.ntmps6
  go_wp2
  go_loopw [4] (fun i wr => ∃ k : Nat, k ≤ len ∧ i = .int .i64 k ∧ Fills wr w.heap.size len k F ∧ Below w.heap.size w wr ∧ w.heap.size < wr.heap.size) (fun i _ => len - (intOf i).toNat)
  case atStart => exact ⟨0, Nat.zero_le _, rfl, Fills.new w len F, (Below.refl _ _).alloc (Nat.le_refl _) _, by simp⟩
  case round =>
    obtain ⟨k, hk, rfl, hth, hbel, hsz⟩ := hrel
    by_cases hlt : k < len
    · have h0 : wr.cell? ⟨b, off + k, none⟩ = some (.float .f64 (F k)) := (hbel.cell (by exact hb)).trans (hc.out k hlt)
      obtain ⟨e0, f0⟩ := hth.1 k hlt
      obtain ⟨x0, e0⟩ := Option.isSome_iff_exists.1 e0
      go_wp2
      go_roundw
      case rel => exact ⟨k + 1, by omega, by go_num, hth.step hlt, hbel.setCell (by simp) _, by simpa using hsz⟩
      case measure => simp [intOf]; omega
    · have hk' : k = len := by omega
      have hrow : RowF wr w.heap.size len F := fun j hj => hth.2 j (by omega)
      clear hth hk'
      go_wp2
      go_ret
      exact ⟨rfl, hrow, hbel, hsz⟩

set_option maxHeartbeats 400000 in
theorem live_any (b len head n : Nat) (F : Nat → Nat) (w : World) (hl : len ≤ 131072) (hb : b < w.heap.size) (hh : head < len) (hn : n ≤ len) (hc : RowF w b len F) :
    Calls Try.prog 7 #[.slice (some ⟨b, 0, none⟩) len len, .int .i64 (head : Int), .int .i64 (n : Int)] w fun e w' => e = .returned (.slice (some ⟨w.heap.size, 0, none⟩) n n) ∧ RowF w' w.heap.size n (fun i => F ((head + i) % len)) ∧ Below w.heap.size w w' ∧ w.heap.size < w'.heap.size := by
  have mk := fun w => make_row w n (by omega)
  go_enter Try.func7, Try.ntmps7
  go_wp2
  go_loopw [8] (fun i wr => ∃ k : Nat, k ≤ n ∧ i = .int .i64 k ∧ Fills wr w.heap.size n k (fun i => F ((head + i) % len)) ∧ Below w.heap.size w wr ∧ w.heap.size < wr.heap.size) (fun i _ => n - (intOf i).toNat)
  case atStart => exact ⟨0, Nat.zero_le _, rfl, Fills.new w n _, (Below.refl _ _).alloc (Nat.le_refl _) _, by simp⟩
  case round =>
    obtain ⟨k, hk, rfl, hth, hbel, hsz⟩ := hrel
    by_cases hlt : k < n
    · have hml : (head + k) % len < len := Nat.mod_lt _ (by omega)
      have h0 : wr.cell? ⟨b, (head + k) % len, none⟩ = some (.float .f64 (F ((head + k) % len))) := (hbel.cell (by exact hb)).trans (hc _ hml)
      have hst := hth.step hlt
      obtain ⟨e0, f0⟩ := hth.1 k hlt
      obtain ⟨x0, e0⟩ := Option.isSome_iff_exists.1 e0
      clear hth
      have hm1 : 0 ≤ ((head : Int) + k) % len := Int.emod_nonneg _ (by omega)
      have hm2 : ((head : Int) + k) % len < len := Int.emod_lt_of_pos _ (by omega)
      go_wp2
      go_roundw
      case rel => exact ⟨k + 1, by omega, by go_num, hst, hbel.setCell (by simp) _, by simpa using hsz⟩
      case measure => simp [intOf]; omega
    · have hrow : RowF wr w.heap.size n (fun i => F ((head + i) % len)) := fun j hj => hth.2 j (by omega)
      clear hth
      go_wp2
      go_ret
      exact ⟨rfl, hrow, hbel, hsz⟩

set_option maxHeartbeats 400000 in
theorem bytes_le (a : Option Addr) (len cap : Nat) (head n k : Int) (w : World) (h : len ≤ 1048576) :
    Calls Try.prog 5 #[.slice a len cap, .int .i64 head, .int .i64 n, .int .i64 k] w fun e w' => e = .returned (.bool true) ∧ w = w' := by
  go_enter Try.func5, Try.ntmps5
  go_wp2
  go_ret
  exact ⟨rfl, rfl⟩
set_option maxHeartbeats 400000 in
theorem bytes_gt (a : Option Addr) (len cap : Nat) (head n k : Int) (w : World) (h : 1048576 < len) (hm : len ≤ maxLen) :
    Calls Try.prog 5 #[.slice a len cap, .int .i64 head, .int .i64 n, .int .i64 k] w fun e w' => e = .returned (.bool false) ∧ w = w' := by
  unfold maxLen at hm
  go_enter Try.func5, Try.ntmps5
  go_wp2
  go_ret
  exact ⟨rfl, rfl⟩

/-- The ring in block r: its buffer the row in block b. -/
def RingAt (w : World) (r b len h n : Nat) : Prop :=
  w.cell? ⟨r, 0, none⟩ = some (.slice (some ⟨b, 0, none⟩) len len) ∧ w.cell? ⟨r, 1, none⟩ = some (.int .i64 (h : Int)) ∧ w.cell? ⟨r, 2, none⟩ = some (.int .i64 (n : Int)) ∧
  w.frozen? ⟨r, 1, none⟩ = false ∧ w.frozen? ⟨r, 2, none⟩ = false

theorem RingAt.below {w w' : World} {r b len h n B : Nat} (hr : RingAt w r b len h n) (hb : Below B w w') (hlt : r < B) : RingAt w' r b len h n := by
  obtain ⟨h0, h1, h2, f1, f2⟩ := hr
  exact ⟨(hb.cell (by exact hlt)).trans h0, (hb.cell (by exact hlt)).trans h1, (hb.cell (by exact hlt)).trans h2, (hb.frozen (by exact hlt)).trans f1, (hb.frozen (by exact hlt)).trans f2⟩

set_option maxHeartbeats 400000 in
theorem new_any (b len head n : Nat) (w : World) :
    Calls Try.prog 8 #[.slice (some ⟨b, 0, none⟩) len len, .int .i64 (head : Int), .int .i64 (n : Int)] w fun e w' => e = .returned (.pointer (some ⟨w.heap.size, 0, none⟩)) ∧ RingAt w' w.heap.size b len head n ∧ Below w.heap.size w w' ∧ w.heap.size < w'.heap.size := by
  go_enter Try.func8, Try.ntmps8
  go_wp2
  go_ret
  exact ⟨rfl, ⟨by simp, by simp, by simp, by simp, by simp⟩, (Below.refl _ _).alloc (Nat.le_refl _) _, by simp⟩

theorem head_any (r b len h n : Nat) (w : World) (hr : RingAt w r b len h n) :
    Calls Try.prog 10 #[.pointer (some ⟨r, 0, none⟩)] w fun e w' => e = .returned (.int .i64 (h : Int)) ∧ w = w' := by
  obtain ⟨h0, h1, h2, f1, f2⟩ := hr
  go_enter Try.func10, Try.ntmps10
  go_wp2
  go_ret
  exact ⟨rfl, rfl⟩
theorem n_any (r b len h n : Nat) (w : World) (hr : RingAt w r b len h n) :
    Calls Try.prog 11 #[.pointer (some ⟨r, 0, none⟩)] w fun e w' => e = .returned (.int .i64 (n : Int)) ∧ w = w' := by
  obtain ⟨h0, h1, h2, f1, f2⟩ := hr
  go_enter Try.func11, Try.ntmps11
  go_wp2
  go_ret
  exact ⟨rfl, rfl⟩
theorem buf_any (r b len h n : Nat) (w : World) (hr : RingAt w r b len h n) :
    Calls Try.prog 12 #[.pointer (some ⟨r, 0, none⟩)] w fun e w' => e = .returned (.slice (some ⟨b, 0, none⟩) len len) ∧ w = w' := by
  obtain ⟨h0, h1, h2, f1, f2⟩ := hr
  go_enter Try.func12, Try.ntmps12
  go_wp2
  go_ret
  exact ⟨rfl, rfl⟩

theorem ring_popped {w : World} {r b len h n : Nat} (hr : RingAt w r b len h (n + 1)) {u v : Int} (hv : v = (((h + 1) % len : Nat) : Int)) (hu : u = (n : Int)) :
    RingAt ((w.setCell ⟨r, 1, none⟩ (.int .i64 v)).setCell ⟨r, 2, none⟩ (.int .i64 u)) r b len ((h + 1) % len) n := by
  obtain ⟨h0, h1, h2, f1, f2⟩ := hr
  subst hv hu
  refine ⟨?_, ?_, ?_, by simp [f1], by simp [f2]⟩
  · rw [World.cell?_setCell_other (h := by simp), World.cell?_setCell_other (h := by simp)]; exact h0
  · rw [World.cell?_setCell_other (h := by simp)]; exact World.cell?_setCell_same _ _ _ h1
  · have : (w.setCell ⟨r, 1, none⟩ (.int .i64 (((h + 1) % len : Nat) : Int))).cell? ⟨r, 2, none⟩ = some (.int .i64 ((n + 1 : Nat) : Int)) := by
      rw [World.cell?_setCell_other (h := by simp)]; exact h2
    exact World.cell?_setCell_same _ _ _ this

set_option maxHeartbeats 400000 in
theorem pop_any (r b len h n : Nat) (w : World) (hr : RingAt w r b len h (n + 1)) (hl : len ≤ 131072) (hh : h < len) (hn : n < 131072) :
    Calls Try.prog 17 #[.pointer (some ⟨r, 0, none⟩)] w fun e w' => e = .returned (.tuple #[]) ∧ RingAt w' r b len ((h + 1) % len) n ∧ Below r w w' := by
  obtain ⟨h0, h1, h2, f1, f2⟩ := hr
  go_enter Try.func17, Try.ntmps17
  go_wp2
  go_region
  all_goals go_wp2
  go_end0
  exact ⟨rfl, ring_popped ⟨h0, h1, h2, f1, f2⟩ (by simp) (by omega), (((Below.refl _ _).setCell (p := ⟨r, 1, none⟩) (Nat.le_refl r) _).setCell (p := ⟨r, 2, none⟩) (Nat.le_refl r) _).drew⟩

theorem zzpop_any (r b len h n : Nat) (w : World) (hr : RingAt w r b len h (n + 1)) (hl : len ≤ 131072) (hh : h < len) (hn : n < 131072) :
    Calls Try.prog 9 #[.pointer (some ⟨r, 0, none⟩)] w fun e w' => e = .returned (.tuple #[]) ∧ RingAt w' r b len ((h + 1) % len) n ∧ Below r w w' := by
  go_enter Try.func9, Try.ntmps9
  go_wp2_with (go_at_call 17; refine (pop_any r b len h n w hr hl hh hn).mono ?_; rintro e w' ⟨rfl, hr', hb'⟩)
  go_end0
  exact ⟨rfl, hr', hb'⟩

set_option maxHeartbeats 400000 in
theorem eqf_any (x : Nat) (w : World) :
    Calls Try.prog 13 #[.float .f64 x, .float .f64 x] w fun e w' => e = .returned (.bool true) ∧ w = w' := by
  go_enter Try.func13, Try.ntmps13
  go_wp2
  · go_ret
    exact ⟨rfl, rfl⟩
  · go_ret
    exact ⟨by cases h : (FloatKind.f64.format.order x x == some Ordering.eq) <;> simp [bne, h], rfl⟩

end Go.Proofs.Qxb6613802a.Ring
