import Derived.Test.Qxb6609558aFmtClmC
namespace Go.Proofs.Qxb6609558aFmt.Clm
open Go.RowKit

/-- A slice of strings, of bools, as the walk is told of it. -/
def SR (w : World) (a : Option Addr) (n : Nat) (S : Nat → ByteArray) : Prop := n = 0 ∨ ∃ b off, a = some ⟨b, off, none⟩ ∧ b < w.heap.size ∧ ∀ j, j < n → w.cell? ⟨b, off + j, none⟩ = some (.string (S j))
def BR (w : World) (a : Option Addr) (n : Nat) (S : Nat → Bool) : Prop := n = 0 ∨ ∃ b off, a = some ⟨b, off, none⟩ ∧ b < w.heap.size ∧ ∀ j, j < n → w.cell? ⟨b, off + j, none⟩ = some (.bool (S j))
theorem SR.below {w w' : World} {a : Option Addr} {n : Nat} {S : Nat → ByteArray} (h : SR w a n S) (hb : Below w.heap.size w w') : SR w' a n S := by
  rcases h with h | ⟨b, off, e, l, hc⟩
  · exact .inl h
  · exact .inr ⟨b, off, e, Nat.lt_of_lt_of_le l hb.size, fun j hj => (hb.cell (by exact l)).trans (hc j hj)⟩
theorem BR.below {w w' : World} {a : Option Addr} {n : Nat} {S : Nat → Bool} (h : BR w a n S) (hb : Below w.heap.size w w') : BR w' a n S := by
  rcases h with h | ⟨b, off, e, l, hc⟩
  · exact .inl h
  · exact .inr ⟨b, off, e, Nat.lt_of_lt_of_le l hb.size, fun j hj => (hb.cell (by exact l)).trans (hc j hj)⟩

def isS (n3 : Nat) (B : Nat → Bool) (i : Nat) : Bool := decide (i < n3) && B i
def val (n3 : Nat) (V : Nat → ByteArray) (B : Nat → Bool) (i : Nat) : Value := if isS n3 B i then .iface 9 (.string (V i)) else .iface 39 (.string (V i))
def bld (n3 : Nat) (S V : Nat → ByteArray) (B : Nat → Bool) : Nat → List (ByteArray × Value)
  | 0 => []
  | k + 1 => upd (bld n3 S V B k) (S k) (val n3 V B k)

theorem mapAt_new (w : World) : MapAt (w.alloc (.map #[] 0)) w.heap.size [] := ⟨#[], 0, heap_alloc_new w _, rfl⟩
theorem MapAt.drew {w : World} {m : Nat} {L : List (ByteArray × Value)} (h : MapAt w m L) : MapAt w.drew m L := h

theorem reader_new {w : World} {m : Nat} {L : List (ByteArray × Value)} (hm : MapAt w m L) : RdrAt (w.alloc (.cells #[.map (some m), .nilIface] 43)) w.heap.size m false ∧ MapAt (w.alloc (.cells #[.map (some m), .nilIface] 43)) m L :=
  ⟨⟨by simp, ⟨_, by simp, .inl ⟨rfl, rfl⟩⟩, by simp⟩, hm.below ((Below.refl _ _).alloc (Nat.le_refl _) _) hm.lt⟩

set_option maxHeartbeats 2000000 in
theorem new_any (a1 a2 a3 : Option Addr) (n1 c1 n2 c2 n3 c3 : Nat) (S V : Nat → ByteArray) (B : Nat → Bool) (w : World) (l1 : n1 ≤ 4096)
    (h1 : SR w a1 n1 S) (h2 : SR w a2 n2 V) (h3 : BR w a3 n3 B) :
    Calls Tryf.prog 8 #[.slice a1 n1 c1, .slice a2 n2 c2, .slice a3 n3 c3] w fun e w' => ∃ r, e = .returned (.pointer (some ⟨r, 0, none⟩)) ∧ RdrAt w' r w.heap.size false ∧ MapAt w' w.heap.size (bld n3 S V B (min n1 n2)) ∧ w.heap.size < r ∧ Below w.heap.size w w' := by
  have hmm := @run_makeMap Tryf.prog
  have HA : Hid (SR w a1 n1 S ∧ SR w a2 n2 V ∧ BR w a3 n3 B) := ⟨h1, h2, h3⟩
  clear h1 h2 h3
  go_enter Tryf.func8, Tryf.ntmps8
  go_wp2
  go_loopw [8] (fun i wr => ∃ k : Nat, k ≤ n1 ∧ k ≤ n2 ∧ i = .int .i64 k ∧ MapAt wr w.heap.size (bld n3 S V B k) ∧ Below w.heap.size w wr) (fun i _ => n1 - (intOf i).toNat)
  case atStart => exact ⟨0, Nat.zero_le _, Nat.zero_le _, rfl, mapAt_new w, (Below.refl _ _).alloc (Nat.le_refl _) _⟩
  case round =>
    obtain ⟨k, hk1, hk2, rfl, hm, hbel⟩ := hrel
    by_cases hlt1 : k < n1
    · by_cases hlt2 : k < n2
      · obtain ⟨H1, H2, H3⟩ := HA.out
        obtain ⟨b1, o1, rfl, hb1, hc1⟩ := H1.resolve_left (by omega)
        obtain ⟨b2, o2, rfl, hb2, hc2⟩ := H2.resolve_left (by omega)
        have d1 : wr.cell? ⟨b1, o1 + k, none⟩ = some (.string (S k)) := (hbel.cell (by exact hb1)).trans (hc1 k hlt1)
        have d2 : wr.cell? ⟨b2, o2 + k, none⟩ = some (.string (V k)) := (hbel.cell (by exact hb2)).trans (hc2 k hlt2)
        have i1 : (k : Int) < (n1 : Int) := by omega
        have i2 : (k : Int) < (n2 : Int) := by omega
        have hbl : bld n3 S V B (k + 1) = upd (bld n3 S V B k) (S k) (val n3 V B k) := rfl
        have HBL : Hid (bld n3 S V B (k + 1) = upd (bld n3 S V B k) (S k) (val n3 V B k)) := hbl
        obtain ⟨w2, hu, hm2, hg2, hs2⟩ := run_update wr.drew w.heap.size (bld n3 S V B k) (S k) (val n3 V B k) hm.drew
        have e1 : w2.cell? ⟨b1, o1 + k, none⟩ = some (.string (S k)) := hg2.cell (a := ⟨b1, o1 + k, none⟩) d1 (by simp; omega)
        have e2 : w2.cell? ⟨b2, o2 + k, none⟩ = some (.string (V k)) := hg2.cell (a := ⟨b2, o2 + k, none⟩) d2 (by simp; omega)
        have bel2 : Below w.heap.size w w2 := hbel.drew.trans (below_grown hg2 hm.lt)
        clear H1 H2 hbl hg2 hs2 hc1 hc2
        generalize bld n3 S V B k = L at *
        by_cases hlt3 : k < n3
        · obtain ⟨b3, o3, rfl, hb3, hc3⟩ := H3.resolve_left (by omega)
          have d3 : wr.cell? ⟨b3, o3 + k, none⟩ = some (.bool (B k)) := (hbel.cell (by exact hb3)).trans (hc3 k hlt3)
          have i3 : (k : Int) < (n3 : Int) := by omega
          clear H3 hc3
          cases hB : B k with
          | true =>
            have ev : val n3 V B k = .iface 9 (.string (V k)) := by simp [val, isS, hlt3, hB]
            rw [hB] at d3
            rw [ev] at hu
            clear hB
            go_wp2
            go_region_held3 (fun w' => w'.cell? ⟨b1, o1 + k, none⟩ = some (.string (S k)) ∧ w'.cell? ⟨b2, o2 + k, none⟩ = some (.string (V k))) (go_keep) (fail)
            go_wp2
            go_roundw
            case rel => exact ⟨k + 1, by omega, by omega, by go_num, by rw [HBL.out]; exact hm2, bel2⟩
            case measure => simp [intOf]; omega
          | false =>
            have ev : val n3 V B k = .iface 39 (.string (V k)) := by simp [val, isS, hB]
            rw [hB] at d3
            rw [ev] at hu
            clear hB
            go_wp2
            go_region_held3 (fun w' => w'.cell? ⟨b1, o1 + k, none⟩ = some (.string (S k)) ∧ w'.cell? ⟨b2, o2 + k, none⟩ = some (.string (V k))) (go_keep) (fail)
            go_wp2
            go_roundw
            case rel => exact ⟨k + 1, by omega, by omega, by go_num, by rw [HBL.out]; exact hm2, bel2⟩
            case measure => simp [intOf]; omega
        · have ev : val n3 V B k = .iface 39 (.string (V k)) := by simp [val, isS, hlt3]
          rw [ev] at hu
          clear H3
          have i3 : decide ((k : Int) < (n3 : Int)) = false := by simp; omega
          go_wp2
          go_region_held3 (fun w' => w'.cell? ⟨b1, o1 + k, none⟩ = some (.string (S k)) ∧ w'.cell? ⟨b2, o2 + k, none⟩ = some (.string (V k))) (go_keep) (fail)
          go_wp2
          go_roundw
          case rel => exact ⟨k + 1, by omega, by omega, by go_num, by rw [HBL.out]; exact hm2, bel2⟩
          case measure => simp [intOf]; omega
      · have i2 : decide ((k : Int) < (n2 : Int)) = false := by simp; omega
        have i1 : (k : Int) < (n1 : Int) := by omega
        have ek : min n1 n2 = k := by omega
        go_wp2
        go_ret
        obtain ⟨q1, q2⟩ := reader_new hm
        exact ⟨wr.heap.size, rfl, q1, by rw [ek]; exact q2, hm.lt, hbel.alloc hbel.size _⟩
    · have i1 : decide ((k : Int) < (n1 : Int)) = false := by simp; omega
      have ek : min n1 n2 = k := by omega
      go_wp2
      go_ret
      obtain ⟨q1, q2⟩ := reader_new hm
      exact ⟨wr.heap.size, rfl, q1, by rw [ek]; exact q2, hm.lt, hbel.alloc hbel.size _⟩

end Go.Proofs.Qxb6609558aFmt.Clm
