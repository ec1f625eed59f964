import Derived.Test.Qxb6609482aVecC
import Derived.Laws.CopyOwn
import Derived.LaidEqlPtr
namespace Go.Proofs.Qxb6609482a.Vec
open Go.RowKit

/-- A row of n bytes in block b, from its head on. -/
def RowB (w : World) (b n : Nat) (F : Nat → Nat) : Prop := ∀ j, j < n → w.cell? ⟨b, j, none⟩ = some (.int .u8 (F j : Int))
theorem RowB.below {w w' : World} {b n B : Nat} {F : Nat → Nat} (h : RowB w b n F) (hb : Below B w w') (hlt : b < B) : RowB w' b n F := fun j hj => (hb.cell (by exact hlt)).trans (h j hj)

/-- What the walk is told of a slice of bytes that came in: nil, or its n bytes. -/
def BytesAt (w : World) (a : Option Addr) (n : Nat) (F : Nat → Nat) : Prop :=
  ∃ x : Addr, a = some x ∧ ∀ j, j < n → w.cell? (x.add j) = some (.int .u8 (F j : Int))

def cellsOf (F : Nat → Nat) (n : Nat) : List Value := (List.range n).map fun j => .int .u8 (F j : Int)
theorem cellsOf_length (F : Nat → Nat) (n : Nat) : (cellsOf F n).length = n := by simp [cellsOf]
theorem cellsOf_get (F : Nat → Nat) (n j : Nat) (v : Value) (h : (cellsOf F n)[j]? = some v) : j < n ∧ v = .int .u8 (F j : Int) := by
  have hj : j < n := by
    have := (List.getElem?_eq_some_iff.1 h).1
    rwa [cellsOf_length] at this
  refine ⟨hj, ?_⟩
  simp [cellsOf, hj] at h
  exact h.symm

theorem make_row (w : World) (n : Nat) (hn : n ≤ 1048576) :
    (Instr.makeSlice 22 (.int .i64 (n : Int)) (.int .i64 (n : Int))).run Try.prog w = .ok (.slice (some ⟨w.heap.size, 0, none⟩) n n) (w.alloc (.cells (madeCells #[.int .u8 0] n) 5)) := by
  obtain ⟨i, hi, hz, h1, h2⟩ := info_parts info5
  have := run_make (P := Try.prog) w 22 5 i _ Try.underlying22 hi hz .i64 .i64 n n (by omega) (by omega) (by rw [h2]; omega) (by omega)
  simpa [h1, Value.cells] using this

theorem sz5 : (Try.prog.info? 5).map (·.size) = some 1 := by kernel_rfl

/-- What lies behind 'copy(zzc, buf)'. -/
theorem copied {w2 : World} {b n : Nat} {F : Nat → Nat} (h : w2.heap[b]? = some (.cells (splice (madeCells #[.int .u8 0] n).toList 0 (cellsOf F n)).toArray 5 (0, 0))) : RowB w2 b n F ∧ b < w2.heap.size := by
  have e : splice (madeCells #[.int .u8 0] n).toList 0 (cellsOf F n) = cellsOf F n := by
    have : (madeCells #[.int .u8 0] n).toList.drop (0 + (cellsOf F n).length) = [] := by
      apply List.drop_eq_nil_of_le
      rw [cellsOf_length]
      simp [size_madeCells]
    simp only [splice, this]
    simp
  rw [e] at h
  refine ⟨fun j hj => ?_, ?_⟩
  · simp only [World.cell?, h]
    simp [cellsOf, hj]
  · exact (Array.getElem?_eq_some_iff.1 h).1

set_option maxHeartbeats 400000 in
theorem bytes12_le (a : Option Addr) (len cap : Nat) (fl : Bool) (w : World) (h : len ≤ 1048576) :
    Calls Try.prog 12 #[.slice a len cap, .bool fl] w fun e w' => e = .returned (.bool true) ∧ w = w' := by
  go_enter Try.func12, Try.ntmps12
  go_wp2
  go_ret
  exact ⟨rfl, rfl⟩
set_option maxHeartbeats 400000 in
theorem bytes12_gt (a : Option Addr) (len cap : Nat) (fl : Bool) (w : World) (h : 1048576 < len) (hm : len ≤ maxLen) :
    Calls Try.prog 12 #[.slice a len cap, .bool fl] w fun e w' => e = .returned (.bool false) ∧ w = w' := by
  unfold maxLen at hm
  go_enter Try.func12, Try.ntmps12
  go_wp2
  go_ret
  exact ⟨rfl, rfl⟩
theorem ex_big (a : Option Addr) (len cap : Nat) (fl : Bool) (w : World) (h : 1048576 < len) (hm : len ≤ maxLen) :
    Calls Try.prog 4 #[.slice a len cap, .bool fl] w fun e w' => e = .returned (.bool true) ∧ w = w' := by
  go_enter Try.func4, Try.ntmps4
  go_wp2_with (go_at_call 12; refine (bytes12_gt a len cap fl w h hm).mono ?_; rintro e w' ⟨rfl, rfl⟩)
  go_ret
  exact ⟨rfl, rfl⟩

theorem n22 (w : World) (a : Option Addr) (n c n' c' : Nat) : (binOp .neq 22 (.slice a n c) (.slice none n' c')).run Try.prog w = .ok (.bool a.isSome) w := by
  have := run_neq_slice_nil_any w 22 5 a n c n' c' Try.underlying22
  simpa using this

theorem ptr_eq (a : Addr) (w : World) : (binOp .eql 30 (.pointer (some a)) (.pointer (some a))).run Try.prog w = .ok (.bool true) w := by
  obtain ⟨j, hj⟩ : ∃ j, Try.prog.info? 4 = some j := Option.isSome_iff_exists.1 (by kernel_rfl)
  exact run_eql_ptr_same w a Try.underlying30 hj
theorem ptr_ne (a : Addr) (w : World) : (binOp .neq 30 (.pointer (some a)) (.pointer (some a))).run Try.prog w = .ok (.bool false) w := by
  obtain ⟨j, hj⟩ : ∃ j, Try.prog.info? 4 = some j := Option.isSome_iff_exists.1 (by kernel_rfl)
  have h : ∀ d : Nat, (Op.equalIn (d + 1) 30 (.pointer (some a)) (.pointer (some a))).run Try.prog w = .ok true w := fun d => by
    simp [Op.equalIn, run_underlying Try.underlying30, sizeOf, typeInfo, hj, run_sameAddr_same]
  simp only [binOp]
  simp [Op.equal, Op.maxDepth, h 9999]
theorem cellsOf_one (F : Nat → Nat) (n : Nat) : ∀ v ∈ cellsOf F n, v.oneCell' = true := by
  intro v hv
  simp [cellsOf] at hv
  obtain ⟨j, _, rfl⟩ := hv
  rfl

theorem copy_run (x : Addr) (len cap : Nat) (F : Nat → Nat) (w : World) (hc : ∀ j, j < len → w.cell? (x.add j) = some (.int .u8 (F j : Int))) (hx : 0 < len → x.block < w.heap.size) :
    ∃ W2, (Builtin.copy_ #[22, 22] 3 #[.slice (some ⟨w.heap.size, 0, none⟩) len len, .slice (some x) len cap]).run Try.prog (w.alloc (.cells (madeCells #[.int .u8 0] len) 5)) = .ok (goInt len) W2 ∧ RowB W2 w.heap.size len F ∧ Below w.heap.size w W2 ∧ w.heap.size < W2.heap.size := by
  have hbel : Below w.heap.size w (w.alloc (.cells (madeCells #[.int .u8 0] len) 5)) := (Below.refl _ _).alloc (Nat.le_refl _) _
  by_cases h0 : len = 0
  · subst h0
    exact ⟨_, run_copy_none (P := Try.prog) _ 22 22 3 5 _ _ 0 0 0 cap Try.underlying22 sz5 rfl, fun j hj => absurd hj (by omega), hbel, by simp⟩
  · have hg : (w.alloc (.cells (madeCells #[.int .u8 0] len) 5)).heap[w.heap.size]? = some (.cells (madeCells #[.int .u8 0] len) 5 (0, 0)) := heap_alloc_new w _
    have hsrc : ∀ j v, (cellsOf F len)[j]? = some v → (w.alloc (.cells (madeCells #[.int .u8 0] len) 5)).cell? (x.add j) = some v := by
      intro j v hv
      obtain ⟨hj, rfl⟩ := cellsOf_get F len j v hv
      have hb : (x.add j).block = x.block := by unfold Addr.add; split <;> rfl
      rw [World.cell?_alloc_lt _ _ _ (by rw [hb]; exact hx (by omega))]
      exact hc j hj
    have hrun := run_copy_row (P := Try.prog) (w.alloc (.cells (madeCells #[.int .u8 0] len) 5)) 22 22 3 5 w.heap.size 0 len len x len cap (madeCells #[.int .u8 0] len) 5 (cellsOf F len) Try.underlying22 sz5 hg
      (by rw [cellsOf_length]; exact (Nat.min_self _).symm) hsrc (by rw [cellsOf_length, size_madeCells]; omega) (cellsOf_one F len)
    rw [cellsOf_length] at hrun
    refine ⟨_, hrun, ?_, below_setRow hbel (Nat.le_refl _) _, ?_⟩
    · have hcp : ((w.alloc (.cells (madeCells #[.int .u8 0] len) 5)).setRow w.heap.size ((madeCells #[.int .u8 0] len).toList.take 0 ++ cellsOf F len ++ (madeCells #[.int .u8 0] len).toList.drop (0 + len)).toArray).heap[w.heap.size]? = some (.cells (splice (madeCells #[.int .u8 0] len).toList 0 (cellsOf F len)).toArray 5 (0, 0)) := by
        simpa [splice, cellsOf_length] using setRow_heap (w.alloc (.cells (madeCells #[.int .u8 0] len) 5)) w.heap.size _ _ 5 _ hg
      exact (copied hcp).1
    · simp [World.setRow]

attribute [local go_sem ↓] exec_slice
set_option maxHeartbeats 1000000 in
theorem ex_nil (fl : Bool) (w : World) :
    Calls Try.prog 4 #[.slice none 0 0, .bool fl] w fun e w' => e = .returned (.bool true) ∧ Below w.heap.size w w' := by
  have q := q22
  have qn := n22
  have pe := ptr_eq
  have pn := ptr_ne
  have hlen : 0 ≤ 1048576 := by omega
  cases fl
  all_goals
    go_enter Try.func4, Try.ntmps4
    go_wp2_with (first | (go_at_call 12; refine (bytes12_le _ _ _ _ _ hlen).mono ?_; rintro e w' ⟨rfl, rfl⟩) | (go_at_call 6; refine (newReader _ _ _ _ _).mono ?_; rintro e w1 ⟨rfl, hr1, hb1, hs1⟩; have HS1 : Hid (w1.heap.size = w.heap.size + 2) := hs1; clear hs1))
    refine (zzvec24 (w.heap.size + 1) ⟨w1.heap.size, 0, none⟩ _ w1 (vec_bad1 (w.heap.size + 1) w.heap.size 0 0 none _ w1 hr1 (by omega) (by have := HS1.out; omega) (.inr (by omega)))).mono ?_
    rintro e w2 ⟨rfl, hr2, hc2, hb2, hs2⟩
    clear hr1
    go_wp2_with (first | (go_at_call 8; refine (rdBuf _ _ _ _ _ (by assumption)).mono ?_; rintro e w' ⟨rfl, rfl⟩) | (go_at_call 9; refine (rdFailed _ _ _ _ _ (by assumption)).mono ?_; rintro e w' ⟨rfl, rfl⟩) | (go_at_call 10; refine (rdFlag _ _ _ _ _ (by assumption)).mono ?_; rintro e w' ⟨rfl, rfl⟩))
    go_ret
    exact ⟨rfl, hb1.trans hb2⟩

set_option maxHeartbeats 1000000 in
theorem ex_some1 (x : Addr) (len cap : Nat) (fl : Bool) (F : Nat → Nat) (w : World) (hlen : len ≤ 1048576) (hc : ∀ j, j < len → w.cell? (x.add j) = some (.int .u8 (F j : Int))) (hx : 0 < len → x.block < w.heap.size)
    (hbad : fl = true ∨ len < 3) :
    Calls Try.prog 4 #[.slice (some x) len cap, .bool fl] w fun e w' => e = .returned (.bool true) ∧ Below w.heap.size w w' := by
  have q := q22
  have qn := n22
  have pe := ptr_eq
  have pn := ptr_ne
  have mk := fun w => make_row w len hlen
  obtain ⟨w2, cp, hrow2, hB2, hs2⟩ := copy_run x len cap F w hc hx
  clear hc
  go_enter Try.func4, Try.ntmps4
  go_wp2_with (first | (go_at_call 12; refine (bytes12_le _ _ _ _ _ hlen).mono ?_; rintro e w' ⟨rfl, rfl⟩) | (go_at_call 6; refine (newReader _ _ _ _ _).mono ?_; rintro e w3 ⟨rfl, hr3, hb3, hs3⟩; have HS3 : Hid (w3.heap.size = w2.heap.size + 2) := hs3; clear hs3))
  refine (zzvec24 (w2.heap.size + 1) ⟨w3.heap.size, 0, none⟩ _ w3 (vec_bad1 (w2.heap.size + 1) w2.heap.size len len (some ⟨w.heap.size, 0, none⟩) fl w3 hr3 (by omega) (by have := HS3.out; omega) hbad)).mono ?_
  rintro e w4 ⟨rfl, hr4, hc4, hb4, hs4⟩
  clear hr3
  have fin : Below w.heap.size w w4 := hB2.trans ((hb3.mono (by omega)).trans (hb4.mono (by omega)))
  cases fl with
  | true =>
    clear hbad
    go_wp2_with (first | (go_at_call 8; refine (rdBuf _ _ _ _ _ (by assumption)).mono ?_; rintro e w' ⟨rfl, rfl⟩) | (go_at_call 9; refine (rdFailed _ _ _ _ _ (by assumption)).mono ?_; rintro e w' ⟨rfl, rfl⟩) | (go_at_call 10; refine (rdFlag _ _ _ _ _ (by assumption)).mono ?_; rintro e w' ⟨rfl, rfl⟩))
    go_ret
    exact ⟨rfl, fin⟩
  | false =>
    have hlt : (len : Int) < 3 := by simp at hbad; omega
    have hd : decide ((3 : Int) ≤ (len : Int)) = false := by simp; omega
    clear hbad
    go_wp2_with (first | (go_at_call 8; refine (rdBuf _ _ _ _ _ (by assumption)).mono ?_; rintro e w' ⟨rfl, rfl⟩) | (go_at_call 9; refine (rdFailed _ _ _ _ _ (by assumption)).mono ?_; rintro e w' ⟨rfl, rfl⟩) | (go_at_call 10; refine (rdFlag _ _ _ _ _ (by assumption)).mono ?_; rintro e w' ⟨rfl, rfl⟩))
    go_ret
    exact ⟨rfl, fin⟩

theorem be3 (F : Nat → Nat) : be F 3 = F 0 * 65536 + F 1 * 256 + F 2 := by
  show ((0 * 256 + F 0) * 256 + F 1) * 256 + F 2 = _
  omega
theorem or3 (F : Nat → Nat) (hF : ∀ j, F j < 256) : bits .or .i64 (bits .or .i64 ((F 0 : Int) * 65536) ((F 1 : Int) * 256)) (F 2 : Int) = (be F 3 : Int) := by
  have h0 := hF 0
  have h1 := hF 1
  have h2 := hF 2
  have e1 := i64_or_nat (F 0 * 65536) (F 1 * 256) (by omega) (by omega)
  rw [nat_join 16 (F 0 * 65536) (F 1 * 256) (by omega) (by omega)] at e1
  have e2 := i64_or_nat (F 0 * 65536 + F 1 * 256) (F 2) (by omega) (by omega)
  rw [nat_join 8 (F 0 * 65536 + F 1 * 256) (F 2) (by omega) (by omega)] at e2
  have c0 : (F 0 : Int) * 65536 = ((F 0 * 65536 : Nat) : Int) := by omega
  have c1 : (F 1 : Int) * 256 = ((F 1 * 256 : Nat) : Int) := by omega
  rw [be3, c0, c1, e1, e2]

end Go.Proofs.Qxb6609482a.Vec
