import Derived.Test.Qxb6612514aFmtMpL
namespace Go.Proofs.Qxb6612514aFmt.Mp
open Go.RowKit Go.Extern.Stop Go.Stop Go.Extern

theorem methodError (v : Value) (w : World) : (Go.method 245 74 v "Error").run Tryf.prog w = .ok (68, v) w := by kernel_rfl

set_option maxRecDepth 100000 in
set_option maxHeartbeats 800000 in
theorem text_one (j jb : Nat) (a : Addr) (s : ByteArray) (w : World) (hj : w.cell? ⟨j, 0, none⟩ = some (.slice (some ⟨jb, 0, none⟩) 1 1)) (hb0 : w.cell? ⟨jb, 0, none⟩ = some (.iface 74 (.pointer (some a)))) (ha : w.cell? a = some (.string s)) :
    Calls Tryf.prog 64 #[.pointer (some ⟨j, 0, none⟩)] w fun e w' => e = .returned (.string s) ∧ w = w' := by
  have mE := methodError
  go_enter Tryf.func64, Tryf.ntmps64
  go_wp2
  go_ret
  exact ⟨rfl, rfl⟩

set_option maxHeartbeats 400000 in
theorem text_err (a : Addr) (s : ByteArray) (w : World) (ha : w.cell? a = some (.string s)) :
    Calls Tryf.prog 68 #[.pointer (some a)] w fun e w' => e = .returned (.string s) ∧ w = w' := by
  go_enter Tryf.func68, Tryf.ntmps68
  go_wp2
  go_ret
  exact ⟨rfl, rfl⟩

set_option maxRecDepth 100000 in
set_option maxHeartbeats 1600000 in
theorem text_two (j jb : Nat) (a b : Addr) (s t : ByteArray) (w : World) (hj : w.cell? ⟨j, 0, none⟩ = some (.slice (some ⟨jb, 0, none⟩) 2 2)) (hb0 : w.cell? ⟨jb, 0, none⟩ = some (.iface 74 (.pointer (some a)))) (hb1 : w.cell? ⟨jb, 1, none⟩ = some (.iface 74 (.pointer (some b))))
    (ha : w.cell? a = some (.string s)) (hb : w.cell? b = some (.string t)) (hs : s.size ≤ 100) (ht : t.size ≤ 100) :
    Calls Tryf.prog 64 #[.pointer (some ⟨j, 0, none⟩)] w fun e w' => (∃ r, e = .returned (.string r)) ∧ Below w.heap.size w w' := by
  have mE := methodError
  have hcv := Lib.run_convert_string_bytes (P := Tryf.prog) w 9 123 5 s Tryf.underlying9 Tryf.underlying123 Tryf.underlying5
  have lj : j < w.heap.size := World.block_lt_of_cell? w ⟨j, 0, none⟩ hj
  have ljb : jb < w.heap.size := World.block_lt_of_cell? w ⟨jb, 0, none⟩ hb0
  have hj' := (Lib.bytesWorld_old w 5 s ⟨j, 0, none⟩ lj).trans hj
  have hb0' := (Lib.bytesWorld_old w 5 s ⟨jb, 0, none⟩ ljb).trans hb0
  have hb1' := (Lib.bytesWorld_old w 5 s ⟨jb, 1, none⟩ ljb).trans hb1
  have hb' := (Lib.bytesWorld_old w 5 s b (World.block_lt_of_cell? w b hb)).trans hb
  go_enter Tryf.func64, Tryf.ntmps64
  go_wp2
  have HB0 : Hid (Buf w.heap.size (Lib.bytesWorld w 5 s) (.slice (some ⟨w.heap.size, 0, none⟩) s.size (grownCap w s.size 0 5)) s.data.toList) := buf_conv w s
  have HW : Hid (Below w.heap.size w (Lib.bytesWorld w 5 s)) := ⟨rfl, rfl, rfl, by rw [Lib.bytesWorld_size]; omega, fun k hk => Lib.bytesWorld_at_old w 5 s k hk⟩
  have hsl : Hid (s.data.toList.length = s.size) := by show _ = _; rw [Array.length_toList]; rfl
  have htl : Hid (t.data.toList.length = t.size) := by show _ = _; rw [Array.length_toList]; rfl
  have lb : b.block < w.heap.size := World.block_lt_of_cell? w b hb
  clear hcv
  generalize Lib.bytesWorld w 5 s = W0 at *
  generalize grownCap w s.size 0 5 = cap0 at *
  have hS1 : Hid (Src Tryf.prog 1 123 (.slice (some ⟨W0.heap.size, 0, none⟩) 1 1) [(10 : UInt8)].length (cellsOf [10]) (W0.alloc (.cells #[.int .u8 10] 5))) :=
    Src.ofSlice _ Tryf.underlying123 ⟨W0.heap.size, 0, none⟩ 1 1 (cellsOf [10]) rfl (fun j u hu => by
      match j, hu with
      | 0, hu => simp [cellsOf] at hu; subst hu; simp [Addr.add]
      | (j + 1), hu => simp [cellsOf] at hu) (fun u hu => by simp [cellsOf] at hu; subst hu; rfl)
  have hS2 : Hid (∀ w1 : World, Src Tryf.prog 1 9 (.string t) t.data.toList.length (cellsOf t.data.toList) w1) := fun w1 => by
    have := Src.ofString (P := Tryf.prog) w1 Tryf.underlying9 t
    rw [htl.out]
    exact this
  refine wp_loop_rounds 2 ?_
  rw [rounds_succ]
  go_wp2_with (first
    | (at_builtin; refine wpList_append_buf (W0.alloc (.cells #[.int .u8 10] 5)) rfl _ _ 123 rfl w.heap.size _ s.data.toList rfl (HB0.out.alloc _) (by have := HW.out.size; simp; omega) _ [10] rfl hS1.out (by rw [hsl.out]; simp; omega) ?_; clear hS1; intro v1 w1 hbuf1 hbel1; have HB1 : Hid (Buf w.heap.size w1 v1 (s.data.toList ++ [10])) := hbuf1; have HL1 : Hid (Below w.heap.size w w1) := (HW.out.alloc (by exact HW.out.size) _).trans hbel1; have hb2 : w1.cell? b = some (.string t) := (HL1.out.cell lb).trans hb; clear hbuf1 hbel1)
    | (go_at_call 68; refine (text_err b t w1 hb2).mono ?_; rintro e w' ⟨rfl, rfl⟩)
    | (at_builtin; refine wpList_append_buf w1 rfl _ _ 9 rfl w.heap.size _ (s.data.toList ++ [10]) rfl HB1.out HL1.out.size _ t.data.toList rfl (hS2.out w1) (by rw [htl.out, List.length_append, hsl.out]; simp; omega) ?_; clear hS2; intro v2 w2 hbuf2 hbel2; have HB2 : Hid (Buf w.heap.size w2 v2 (s.data.toList ++ [10] ++ t.data.toList)) := hbuf2; have HL2 : Hid (Below w.heap.size w w2) := HL1.out.trans hbel2; clear hbuf2 hbel2))
  have hL : Hid ((s.data.toList ++ [10] ++ t.data.toList).length ≤ 1000) := by show _ ≤ _; rw [List.length_append, List.length_append, hsl.out, htl.out]; simp; omega
  have hL0 : Hid (s.data.toList ++ [10] ++ t.data.toList ≠ []) := by show _ ≠ _; simp
  generalize s.data.toList ++ [10] ++ t.data.toList = L at *
  have hv2 := HB2.out
  obtain ⟨g, cap, rfl, hg, _⟩ := hv2
  have hus : ∀ ty it, (Builtin.unsafeString_ #[111, it] ty #[.pointer (some ⟨g, 0, none⟩), .int .i64 L.length]).run Tryf.prog w2 = .ok (.string ⟨L.toArray⟩) (w2.freeze ⟨g, 0, none⟩ L.length) := fun ty it => buf_string w2 g cap _ L HB2.out hL0.out hL.out ty it
  have hpos : 0 < L.length := by have := hL0.out; cases L with | nil => exact absurd rfl this | cons _ _ => simp
  have hposI : (0 : Int) < (L.length : Int) := by omega
  rw [rounds_succ]
  go_wp2
  go_ret
  exact ⟨⟨_, rfl⟩, Lib.below_freeze HL2.out hg _⟩

end Go.Proofs.Qxb6612514aFmt.Mp
