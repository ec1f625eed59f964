import Derived.Test.Qxb6612514aFmtMpJ
import Derived.Deep.AppendSrc
import Derived.Lib.UnsafeStr
import Derived.Lib.ConvBytes
import Derived.Laws.IdiomCopy
import Derived.OwnWalk
namespace Go.Proofs.Qxb6612514aFmt.Mp
open Go.RowKit Go.Extern.Stop Go.Stop Go.Extern

/-! ### A buffer of bytes -/
def Buf (B : Nat) (w : World) (v : Value) (l : List UInt8) : Prop :=
  ∃ g cap, v = .slice (some ⟨g, 0, none⟩) l.length cap ∧ B ≤ g ∧ l.length ≤ cap ∧ w.shape? g = some (5, cap) ∧
    (∀ j, j < cap → (w.cell? ⟨g, j, none⟩).isSome = true ∧ w.frozen? ⟨g, j, none⟩ = false) ∧ (∀ j x, l[j]? = some x → w.cell? ⟨g, j, none⟩ = some (.int .u8 x.toNat))

theorem below_cells {B : Nat} {a : World} (b : Nat) (hb : B ≤ b) : ∀ (vs : List Value) (o : Nat) {w : World}, Below B a w → Below B a (w.setCells b o vs)
  | [], _, _, h => h
  | v :: vs, o, _, h => below_cells b hb vs (o + 1) (h.setCell (p := ⟨b, o, none⟩) hb v)
theorem shape_setCell (w : World) (a : Addr) (u : Value) (k : Nat) : (w.setCell a u).shape? k = w.shape? k := by
  unfold World.shape?
  by_cases h : k = a.block
  · subst h
    simp only [World.setCell, Array.getElem?_modify]
    cases hb : w.heap[a.block]? with
    | none => simp
    | some o =>
      cases o <;> simp
      all_goals (split <;> simp_all)
  · rw [Below.heap_setCell _ _ _ _ h]
theorem shape_setCells (b : Nat) : ∀ (vs : List Value) (o : Nat) (w : World) (k : Nat), (w.setCells b o vs).shape? k = w.shape? k
  | [], _, _, _ => rfl
  | v :: vs, o, w, k => (shape_setCells b vs (o + 1) _ k).trans (shape_setCell w _ v k)
theorem isSome_cells (b : Nat) (vs : List Value) (o : Nat) (w : World) (h : ∀ j, j < vs.length → (w.cell? ⟨b, o + j, none⟩).isSome = true) (k : Nat) (hk : (w.cell? ⟨b, k, none⟩).isSome = true) : ((w.setCells b o vs).cell? ⟨b, k, none⟩).isSome = true := by
  by_cases hin : o ≤ k ∧ k < o + vs.length
  · have := World.cell?_setCells_in b vs o w h (k - o) (by omega)
    rw [show o + (k - o) = k by omega] at this
    rw [this]; rfl
  · rw [World.cell?_setCells_out b vs o w _ (fun _ _ => by show k < o ∨ o + vs.length ≤ k; omega)]
    exact hk

theorem info5 : (Tryf.prog.info? 5).map (fun i => (i.size, i.bytes, i.zero)) = some (1, 1, some (.int .u8 0)) := by kernel_rfl
def cellsOf (l : List UInt8) : List Value := l.map fun b => Value.int .u8 b.toNat

theorem run_append_buf (w : World) (tx ty : TypeId) (B : Nat) (v : Value) (l : List UInt8) (hb : Buf B w v l) (hB : B ≤ w.heap.size) (x : Value) (news : List UInt8)
    (hs : Src Tryf.prog 1 tx x news.length (cellsOf news) w) (hlen : l.length + news.length ≤ 1000) :
    ∃ v' w', (Builtin.append_ #[123, tx] ty #[v, x]).run Tryf.prog w = .ok v' w' ∧ Buf B w' v' (l ++ news) ∧ Below B w w' := by
  obtain ⟨i, hi, hii⟩ := Option.map_eq_some_iff.1 info5
  have hsz : i.size = 1 := by have := congrArg (·.1) hii; exact this
  have hby : i.bytes = 1 := by have := congrArg (·.2.1) hii; exact this
  have hz : i.zero = some (.int .u8 0) := by have := congrArg (·.2.2) hii; exact this
  obtain ⟨g, cap, rfl, hg, hle, hsh, hth, hct⟩ := hb
  have hnl : (cellsOf news).length = news.length := by simp [cellsOf]
  have hs' : Src Tryf.prog i.size tx x news.length (cellsOf news) w := by rw [hsz]; exact hs
  by_cases hroom : l.length + news.length ≤ cap
  · have hthere : ∀ j, j < (cellsOf news).length → (w.cell? ⟨g, l.length + j, none⟩).isSome = true := fun j hj => (hth (l.length + j) (by omega)).1
    have hr := run_append_room_src (P := Tryf.prog) w 123 tx ty 5 i Tryf.underlying123 hi g 0 l.length cap x news.length (cellsOf news) hs' hroom
      (by rw [hsz]; simpa using hthere) (by rw [hsz]; intro j hj; simpa using (hth (l.length + j) (by omega)).2)
    refine ⟨_, _, hr, ⟨g, cap, by simp, hg, by simpa using hroom, by rw [shape_setCells]; exact hsh, fun j hj => ⟨?_, by rw [World.frozen?_setCells]; exact (hth j hj).2⟩, fun j y hy => ?_⟩, below_cells g hg _ _ (Below.refl _ _)⟩
    · rw [hsz]
      exact isSome_cells g _ _ w (by simpa using hthere) j (hth j hj).1
    · rw [hsz]
      by_cases hj : j < l.length
      · rw [World.cell?_setCells_out g _ _ _ _ (fun _ _ => Or.inl (by show j < 0 + l.length * 1; omega))]
        rw [List.getElem?_append_left hj] at hy
        exact hct j y hy
      · rw [List.getElem?_append_right (by omega)] at hy
        have hlt : j - l.length < news.length := (List.getElem?_eq_some_iff.1 hy).1
        have := World.cell?_setCells_in g (cellsOf news) (0 + l.length * 1) w (by simpa using hthere) (j - l.length) (by omega)
        rw [show 0 + l.length * 1 + (j - l.length) = j by omega] at this
        rw [this]
        have e := (List.getElem?_eq_some_iff.1 hy).2
        simp [cellsOf, e]
  · have hold : (Builtin.firstCells i.size l.length (.slice (some ⟨g, 0, none⟩) l.length cap)).run Tryf.prog w.drew = .ok (cellsOf l).toArray w.drew := by
      refine run_firstCells_some w.drew i.size l.length ⟨g, 0, none⟩ l.length cap (cellsOf l) (by simp [cellsOf, hsz]) (fun j u hu => ?_)
      rw [Addr.add_lit, Nat.zero_add]
      obtain ⟨y, hy, rfl⟩ : ∃ y, l[j]? = some y ∧ Value.int .u8 y.toNat = u := by simpa [cellsOf] using hu
      exact hct j y hy
    have hr := run_append_grow_src (P := Tryf.prog) w 123 tx ty 5 i (.int .u8 0) Tryf.underlying123 hi hz (some ⟨g, 0, none⟩) l.length cap (cellsOf l) hold x news.length (cellsOf news) hs' (by omega) (by omega) (growslice_fits (by omega) (by rw [hby]; omega))
    have hge := grownCap_ge w (l.length + news.length) cap 5
    have hzs : (Value.cells (.int .u8 0)).size = 1 := rfl
    have hC : ((cellsOf l ++ cellsOf news).toArray ++ Builtin.zeroCells (Value.cells (.int .u8 0)) (grownCap w (l.length + news.length) cap 5 - (l.length + news.length))).size = grownCap w (l.length + news.length) cap 5 := by
      rw [Array.size_append, size_zeroCells, hzs]
      simp [cellsOf]
      omega
    generalize hCe : (cellsOf l ++ cellsOf news).toArray ++ Builtin.zeroCells (Value.cells (.int .u8 0)) (grownCap w (l.length + news.length) cap 5 - (l.length + news.length)) = C at hr hC
    have hnew : (w.drew.alloc (.cells C 5)).heap[w.heap.size]? = some (.cells C 5 (0, 0)) := by
      show (w.heap.push _)[w.heap.size]? = _
      rw [Array.getElem?_push_size]
    refine ⟨_, _, hr, ⟨w.heap.size, grownCap w (l.length + news.length) cap 5, by simp, hB, by simpa using hge, ?_, fun j hj => ⟨?_, ?_⟩, fun j y hy => ?_⟩, ((Below.refl _ _).drew).alloc hB _⟩
    · unfold World.shape?
      rw [hnew]
      simp [hC]
    · rw [cell_of_row _ _ j C 5 (0, 0) hnew, Array.getElem?_eq_getElem (by omega)]
      rfl
    · unfold World.frozen?
      rw [show (⟨w.heap.size, j, none⟩ : Addr).block = w.heap.size from rfl, hnew]
      simp
    · rw [cell_of_row _ _ j C 5 (0, 0) hnew, ← hCe]
      have hlt : j < (l ++ news).length := (List.getElem?_eq_some_iff.1 hy).1
      rw [Array.getElem?_append_left (by simpa [cellsOf] using hlt)]
      have e : cellsOf l ++ cellsOf news = cellsOf (l ++ news) := by simp [cellsOf]
      rw [e]
      show (cellsOf (l ++ news)).toArray[j]? = _
      rw [List.getElem?_toArray]
      unfold cellsOf
      rw [List.getElem?_map, hy]
      rfl

theorem wpList_append_buf (w : World) {ops : Array Oper} {rest : List Oper} {o : Oper} {a : Act} {Q : Exit → Act → World → Prop} (hgd : o.guard = none) (s x : Operand) (tx : TypeId)
    (ho : o.op = .call { callee := .builtin .append, args := #[s, x], argTypes := #[123, tx] })
    (B : Nat) (v : Value) (l : List UInt8) (hv : a.eval s = v) (hb : Buf B w v l) (hB : B ≤ w.heap.size) (xv : Value) (news : List UInt8) (hx : a.eval x = xv)
    (hs : Src Tryf.prog 1 tx xv news.length (cellsOf news) w) (hlen : l.length + news.length ≤ 1000)
    (hK : ∀ v' w', Buf B w' v' (l ++ news) → Below B w w' → wpList Tryf.prog ops Q rest (a.put o.dst v') w') : wpList Tryf.prog ops Q (o :: rest) a w := by
  refine wpList_plain hgd fun K hK' => ?_
  obtain ⟨v', w', hr, h2, h3⟩ := run_append_buf w tx o.type B v l hb hB xv news hs hlen
  unfold Oper.wp execOp
  simp only [ho, resolve, invoke, builtin, Sem.run_bind, Sem.run_pure, Result.andThen_ok, List.map_toArray, List.map_cons, List.map_nil, hv, hx, hr]
  exact hK' _ _ (hK v' w' h2 h3)

theorem buf_conv (w : World) (s : ByteArray) : Buf w.heap.size (Lib.bytesWorld w 5 s) (.slice (some ⟨w.heap.size, 0, none⟩) s.size (grownCap w s.size 0 5)) s.data.toList := by
  have hge := grownCap_ge w s.size 0 5
  have hsl : s.data.toList.length = s.size := by rw [Array.length_toList]; rfl
  have hC : (Lib.bytesCells w 5 s).size = grownCap w s.size 0 5 := by
    simp [Lib.bytesCells]
    omega
  have hnew := Lib.bytesWorld_at_new w 5 s
  refine ⟨w.heap.size, grownCap w s.size 0 5, by rw [hsl], Nat.le_refl _, by rw [hsl]; exact hge, ?_, fun j hj => ⟨?_, ?_⟩, fun j y hy => ?_⟩
  · unfold World.shape?
    rw [hnew]
    simp [hC]
  · rw [cell_of_row _ _ j _ 5 _ hnew, Array.getElem?_eq_getElem (by omega)]
    rfl
  · unfold World.frozen?
    rw [show (⟨w.heap.size, j, none⟩ : Addr).block = w.heap.size from rfl, hnew]
    simp [hC]
    omega
  · have hlt : j < s.size := by have := (List.getElem?_eq_some_iff.1 hy).1; omega
    rw [Lib.bytesWorld_cell w 5 s j hlt]
    simp [List.getD, hy]

theorem Buf.alloc {B : Nat} {w : World} {v : Value} {l : List UInt8} (h : Buf B w v l) (o : Obj) : Buf B (w.alloc o) v l := by
  obtain ⟨g, cap, rfl, hg, hle, hsh, hth, hct⟩ := h
  have hlt : g < w.heap.size := by
    rcases Nat.lt_or_ge g w.heap.size with h' | h'
    · exact h'
    · simp [World.shape?, Array.getElem?_eq_none h'] at hsh
  have hb := (Below.refl w.heap.size w).alloc (Nat.le_refl _) o
  refine ⟨g, cap, rfl, hg, hle, ?_, fun j hj => ⟨?_, ?_⟩, fun j y hy => ?_⟩
  · unfold World.shape? at hsh ⊢
    rw [hb.block g hlt]
    exact hsh
  · rw [hb.cell (by exact hlt)]; exact (hth j hj).1
  · rw [hb.frozen (by exact hlt)]; exact (hth j hj).2
  · rw [hb.cell (by exact hlt)]; exact hct j y hy

theorem cells5 : Tryf.prog.cellsOf 5 = 1 := by kernel_rfl
theorem buf_string (w : World) (g cap B : Nat) (l : List UInt8) (h : Buf B w (.slice (some ⟨g, 0, none⟩) l.length cap) l) (h0 : l ≠ []) (hl : l.length ≤ 1000) (ty it : TypeId) :
    (Builtin.unsafeString_ #[111, it] ty #[.pointer (some ⟨g, 0, none⟩), .int .i64 l.length]).run Tryf.prog w = .ok (.string ⟨l.toArray⟩) (w.freeze ⟨g, 0, none⟩ l.length) := by
  obtain ⟨g', cap', hv, hg, hle, hsh, hth, hct⟩ := h
  obtain ⟨rfl, rfl⟩ : g = g' ∧ cap = cap' := by simpa using hv
  refine Lib.run_unsafeString_row w 111 it ty 5 Tryf.underlying111 cells5 g cap hsh l h0 hle (by omega) (fun j x hx => ?_)
  rw [Addr.add_lit, Nat.zero_add]
  exact hct j x hx

end Go.Proofs.Qxb6612514aFmt.Mp
