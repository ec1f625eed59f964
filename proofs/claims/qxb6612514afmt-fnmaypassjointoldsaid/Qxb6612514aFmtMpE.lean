import Derived.Test.Qxb6612514aFmtMpD
namespace Go.Proofs.Qxb6612514aFmt.Mp
open Go.RowKit Go.Extern.Stop Go.Stop Go.Extern

/-- The three sentinels: ErrNoRun (variable 0) at a0, ErrRateLimited (1) at a1, ErrTransient (2) at a2. -/
def SentAt (w : World) (g : Nat) (a : Addr) : Prop :=
  w.cell? ⟨g, 0, none⟩ = some (.iface 74 (.pointer (some a))) ∧ (∃ c t, w.heap[a.block]? = some (.cells c t (0, 0))) ∧ ∃ s, w.cell? a = some (.string s)
def Sents (w : World) (a0 a1 a2 : Addr) : Prop :=
  SentAt w 0 a0 ∧ SentAt w 1 a1 ∧ SentAt w 2 a2 ∧ a0 ≠ a1 ∧ a0 ≠ a2 ∧ a1 ≠ a2
theorem SentAt.below {w w' : World} {g : Nat} {a : Addr} (h : SentAt w g a) (hb : Below w.heap.size w w') : SentAt w' g a := by
  obtain ⟨h0, ⟨c, t, h1⟩, s, h2⟩ := h
  have ha : a.block < w.heap.size := World.block_lt_of_cell? w a h2
  exact ⟨(hb.cell (World.block_lt_of_cell? w _ h0)).trans h0, ⟨c, t, (hb.block _ ha).trans h1⟩, s, (hb.cell ha).trans h2⟩
theorem Sents.below {w w' : World} {a0 a1 a2 : Addr} (h : Sents w a0 a1 a2) (hb : Below w.heap.size w w') : Sents w' a0 a1 a2 := by
  obtain ⟨h0, h1, h2, h3⟩ := h
  exact ⟨h0.below hb, h1.below hb, h2.below hb, h3⟩

/-- The error of kind k. -/
def Base (w : World) (a1 a2 : Addr) (k : Int) (v : Value) : Prop :=
  (k = 0 ∧ v = .nilIface) ∨ (k ≠ 0 ∧ ∃ a c t s, v = .iface 74 (.pointer (some a)) ∧ w.heap[a.block]? = some (.cells c t (0, 0)) ∧ w.cell? a = some (.string s) ∧ decide (a = a1) = decide (k = 1) ∧ decide (a = a2) = decide (k = 2))
theorem Base.below {w w' : World} {a1 a2 : Addr} {k : Int} {v : Value} (h : Base w a1 a2 k v) (hb : Below w.heap.size w w') : Base w' a1 a2 k v := by
  rcases h with h | ⟨hk, a, c, t, s, rfl, h1, h2, h3⟩
  · exact .inl h
  · have ha : a.block < w.heap.size := World.block_lt_of_cell? w a h2
    exact .inr ⟨hk, a, c, t, s, rfl, (hb.block _ ha).trans h1, (hb.cell ha).trans h2, h3⟩
theorem Base.ifc {w : World} {a1 a2 : Addr} {k : Int} {v : Value} (h : Base w a1 a2 k v) : Ifc v := by
  rcases h with h | ⟨hk, a, c, t, s, rfl, h1, h2, h3⟩
  · exact .inl h.2
  · exact .inr ⟨_, _, rfl⟩
theorem Base.opnd {F : Interp} {w : World} {a1 a2 : Addr} {k : Int} {v : Value} (h : Base w a1 a2 k v) (hF : F.answers w.tape) : Opnd w v := by
  rcases h with ⟨_, rfl⟩ | ⟨hk, a, c, t, s, rfl, h1, h2, h3⟩
  · exact opnd_nil F w hF
  · exact opnd_err F a s w hF h2
theorem Base.ans {w : World} {a0 a1 a2 : Addr} {k : Int} {e v : Value} {d : Nat} (h : Base w a1 a2 k e) (hs : Sents w a0 a1 a2) (hc : Chain w e d v) : Ans w v a1 (decide (k = 1)) ∧ Ans w v a2 (decide (k = 2)) := by
  obtain ⟨_, ⟨_, ⟨c1, t1, b1⟩, _⟩, ⟨_, ⟨c2, t2, b2⟩, _⟩, _⟩ := hs
  rcases h with ⟨rfl, rfl⟩ | ⟨hk, a, c, t, s, rfl, h1, h2, h3, h4⟩
  · exact ⟨ans_nil a1 w d v hc, ans_nil a2 w d v hc⟩
  · rw [← h3, ← h4]
    exact ⟨ans_err a a1 c c1 t t1 w h1 b1 d v hc, ans_err a a2 c c2 t t2 w h1 b2 d v hc⟩

def otherText : ByteArray := ⟨#[122, 122, 58, 32, 97, 110, 111, 116, 104, 101, 114, 32, 102, 97, 105, 108, 117, 114, 101]⟩
set_option maxHeartbeats 1600000 in
theorem kind_any (a0 a1 a2 : Addr) (k : Int) (w : World) (hs : Sents w a0 a1 a2) :
    Calls Tryf.prog 17 #[.int .u8 k] w fun r w' => (∃ v, r = .returned v ∧ Base w' a1 a2 k v) ∧ Below w.heap.size w w' := by
  obtain ⟨⟨g0, ⟨c0, t0, b0⟩, s0, x0⟩, ⟨g1, ⟨c1, t1, b1⟩, s1, x1⟩, ⟨g2, ⟨c2, t2, b2⟩, s2, x2⟩, n01, n02, n12⟩ := hs
  by_cases e0 : k = 0
  · subst e0
    go_enter Tryf.func17, Tryf.ntmps17
    go_wp2
    go_ret
    exact ⟨⟨_, rfl, .inl ⟨rfl, rfl⟩⟩, Below.refl _ _⟩
  by_cases e1 : k = 1
  · subst e1
    go_enter Tryf.func17, Tryf.ntmps17
    go_wp2
    go_ret
    exact ⟨⟨_, rfl, .inr ⟨by decide, a1, c1, t1, s1, rfl, b1, x1, by simp, by simp [n12]⟩⟩, Below.refl _ _⟩
  by_cases e2 : k = 2
  · subst e2
    go_enter Tryf.func17, Tryf.ntmps17
    go_wp2
    go_ret
    exact ⟨⟨_, rfl, .inr ⟨by decide, a2, c2, t2, s2, rfl, b2, x2, by simp [Ne.symm n12], by simp⟩⟩, Below.refl _ _⟩
  by_cases e3 : k = 3
  · subst e3
    go_enter Tryf.func17, Tryf.ntmps17
    go_wp2
    go_ret
    exact ⟨⟨_, rfl, .inr ⟨by decide, a0, c0, t0, s0, rfl, b0, x0, by simp [n01], by simp [n02]⟩⟩, Below.refl _ _⟩
  go_enter Tryf.func17, Tryf.ntmps17
  go_wp2
  go_ret
  have l1 : a1.block < w.heap.size := World.block_lt_of_cell? w a1 x1
  have l2 : a2.block < w.heap.size := World.block_lt_of_cell? w a2 x2
  have m1 : (⟨w.heap.size, 0, none⟩ : Addr) ≠ a1 := fun q => by rw [← q] at l1; simp at l1
  have m2 : (⟨w.heap.size, 0, none⟩ : Addr) ≠ a2 := fun q => by rw [← q] at l2; simp at l2
  refine ⟨⟨_, rfl, .inr ⟨e0, ⟨w.heap.size, 0, none⟩, #[.string otherText], 76, otherText, rfl, ?_, ?_, by simp [m1, e1], by simp [m2, e2]⟩⟩, (Below.refl _ _).alloc (Nat.le_refl _) _⟩
  · show (w.heap.push _)[w.heap.size]? = _
    rw [Array.getElem?_push_size]
    rfl
  · go_simp
    rfl

set_option maxHeartbeats 400000 in
theorem retry_any (k : Int) (w : World) :
    Calls Tryf.prog 7 #[.int .u8 k] w fun r w' => r = .returned (.bool (decide (k = 1) || decide (k = 2))) ∧ w = w' := by
  go_enter Tryf.func7, Tryf.ntmps7
  go_wp2
  all_goals go_ret
  · refine ⟨?_, rfl⟩
    simp_all
  · exact ⟨rfl, rfl⟩

end Go.Proofs.Qxb6612514aFmt.Mp
