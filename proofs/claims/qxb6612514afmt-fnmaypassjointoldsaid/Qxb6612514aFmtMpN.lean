import Derived.Test.Qxb6612514aFmtMpM
import Derived.Test.Qxb6612514aFmtMpK
namespace Go.Proofs.Qxb6612514aFmt.Mp
open Go.RowKit Go.Extern.Stop Go.Stop Go.Extern

theorem typeStr62 (w : World) : (typeStr 62).run Tryf.prog w = .ok "*errors.joinError" w := by kernel_rfl
attribute [local go_sem] call27 fguard fmt0 fmt0r ptr74 elem74 ptr73 elem73 isError74 isError73 isError62 actNil act74 act73 act62 opNil typeStr62

theorem Wrapped.behind {w w3 w' : World} {u : Value} {e : Ending} (h : Wrapped w3 w' u e) (hb : Below w.heap.size w w3) : Wrapped w w' u e := by
  obtain ⟨nb, s, he, c0, c1, b⟩ := h
  exact ⟨nb, s, he, c0, c1, hb.trans (b.mono hb.size)⟩

set_option maxRecDepth 100000 in
set_option maxHeartbeats 800000 in
theorem errorf_join (F : Interp) (b j : Nat) (w : World) (hF : F.answers w.tape) (hc : w.cell? ⟨b, 0, none⟩ = some (.iface 62 (.pointer (some ⟨j, 0, none⟩))))
    (hT : Hid (Calls Tryf.prog 64 #[.pointer (some ⟨j, 0, none⟩)] w fun e w' => (∃ r, e = .returned (.string r)) ∧ Below w.heap.size w w')) :
    Calls Tryf.prog 22 #[.string ⟨#[122, 122, 58, 32, 37, 119]⟩, .slice (some ⟨b, 0, none⟩) 1 1] w fun e w' => Wrapped w w' (.iface 62 (.pointer (some ⟨j, 0, none⟩))) e := by
  have hb : b < w.heap.size := World.block_lt_of_cell? w ⟨b, 0, none⟩ hc
  have HF : Hid (F.answers w.tape) := hF
  clear hF
  go_enter Tryf.func22, Tryf.ntmps22
  go_wp2
  apply rows_call nextTurns
  case hr =>
    go_simp
    exact ⟨⟨rfl, rfl, rfl⟩, rfl⟩
  case hi => exact invoke62 _ _
  case hc =>
    refine hT.out.mono fun e w₃ ⟨⟨r, he⟩, hx⟩ => ?_
    subst he
    have hF2 : F.answers w₃.tape := by rw [hx.tape]; exact HF.out
    have hF3 := answers_open hF2
    have hc3 : w₃.cell? ⟨b, 0, none⟩ = some (.iface 62 (.pointer (some ⟨j, 0, none⟩))) := (hx.cell (by exact hb)).trans hc
    apply rows_value nextReturned
    case hr =>
      go_simp
      exact ⟨rfl, rfl⟩
    case h =>
      go_wp2
      go_ret
      exact (wrapped_mk w₃ _ _).behind hx

/-- The error of a kind k ≠ 0 lies at a. -/
def ErrAt (w : World) (a1 a2 : Addr) (k : Int) (a : Addr) : Prop :=
  (∃ c t, w.heap[a.block]? = some (.cells c t (0, 0))) ∧ (∃ s, w.cell? a = some (.string s) ∧ s.size ≤ 100) ∧ decide (a = a1) = decide (k = 1) ∧ decide (a = a2) = decide (k = 2)
theorem ErrAt.below {w w' : World} {a1 a2 a : Addr} {k : Int} (h : ErrAt w a1 a2 k a) (hb : Below w.heap.size w w') : ErrAt w' a1 a2 k a := by
  obtain ⟨⟨c, t, h1⟩, ⟨s, h2, h3⟩, h4⟩ := h
  have ha : a.block < w.heap.size := World.block_lt_of_cell? w a h2
  exact ⟨⟨c, t, (hb.block _ ha).trans h1⟩, ⟨s, (hb.cell ha).trans h2, h3⟩, h4⟩
/-- The sentinels' texts are short. -/
def Short (w : World) (a0 a1 a2 : Addr) : Prop := ∀ a s, (a = a0 ∨ a = a1 ∨ a = a2) → w.cell? a = some (.string s) → s.size ≤ 100
theorem Short.below {w w' : World} {a0 a1 a2 : Addr} (h : Short w a0 a1 a2) (hs : Sents w a0 a1 a2) (hb : Below w.heap.size w w') : Short w' a0 a1 a2 := by
  intro a s ha hc
  obtain ⟨⟨_, _, s0, x0⟩, ⟨_, _, s1, x1⟩, ⟨_, _, s2, x2⟩, _⟩ := hs
  refine h a s ha ?_
  rcases ha with rfl | rfl | rfl
  · exact (hb.cell (World.block_lt_of_cell? w _ x0)).symm.trans hc
  · exact (hb.cell (World.block_lt_of_cell? w _ x1)).symm.trans hc
  · exact (hb.cell (World.block_lt_of_cell? w _ x2)).symm.trans hc

set_option maxHeartbeats 400000 in
theorem kind_zero (w : World) : Calls Tryf.prog 17 #[.int .u8 0] w fun r w' => r = .returned .nilIface ∧ w = w' := by
  go_enter Tryf.func17, Tryf.ntmps17
  go_wp2
  go_ret
  exact ⟨rfl, rfl⟩

set_option maxHeartbeats 1600000 in
theorem kind_pos (a0 a1 a2 : Addr) (k : Int) (w : World) (hs : Sents w a0 a1 a2) (hh : Short w a0 a1 a2) (e0 : k ≠ 0) :
    Calls Tryf.prog 17 #[.int .u8 k] w fun r w' => (∃ a, r = .returned (.iface 74 (.pointer (some a))) ∧ ErrAt w' a1 a2 k a) ∧ Below w.heap.size w w' := by
  obtain ⟨⟨g0, ⟨c0, t0, b0⟩, s0, x0⟩, ⟨g1, ⟨c1, t1, b1⟩, s1, x1⟩, ⟨g2, ⟨c2, t2, b2⟩, s2, x2⟩, n01, n02, n12⟩ := hs
  have z0 := hh a0 s0 (.inl rfl) x0
  have z1 := hh a1 s1 (.inr (.inl rfl)) x1
  have z2 := hh a2 s2 (.inr (.inr rfl)) x2
  clear hh
  by_cases e1 : k = 1
  · subst e1
    go_enter Tryf.func17, Tryf.ntmps17
    go_wp2
    go_ret
    exact ⟨⟨a1, rfl, ⟨c1, t1, b1⟩, ⟨s1, x1, z1⟩, by simp, by simp [n12]⟩, Below.refl _ _⟩
  by_cases e2 : k = 2
  · subst e2
    go_enter Tryf.func17, Tryf.ntmps17
    go_wp2
    go_ret
    exact ⟨⟨a2, rfl, ⟨c2, t2, b2⟩, ⟨s2, x2, z2⟩, by simp [Ne.symm n12], by simp⟩, Below.refl _ _⟩
  by_cases e3 : k = 3
  · subst e3
    go_enter Tryf.func17, Tryf.ntmps17
    go_wp2
    go_ret
    exact ⟨⟨a0, rfl, ⟨c0, t0, b0⟩, ⟨s0, x0, z0⟩, by simp [n01], by simp [n02]⟩, Below.refl _ _⟩
  go_enter Tryf.func17, Tryf.ntmps17
  go_wp2
  go_ret
  have l1 : a1.block < w.heap.size := World.block_lt_of_cell? w a1 x1
  have l2 : a2.block < w.heap.size := World.block_lt_of_cell? w a2 x2
  have m1 : (⟨w.heap.size, 0, none⟩ : Addr) ≠ a1 := fun q => by rw [← q] at l1; simp at l1
  have m2 : (⟨w.heap.size, 0, none⟩ : Addr) ≠ a2 := fun q => by rw [← q] at l2; simp at l2
  refine ⟨⟨⟨w.heap.size, 0, none⟩, rfl, ⟨#[.string otherText], 76, ?_⟩, ⟨otherText, ?_, by decide⟩, by simp [m1, e1], by simp [m2, e2]⟩, (Below.refl _ _).alloc (Nat.le_refl _) _⟩
  · show (w.heap.push _)[w.heap.size]? = _
    rw [Array.getElem?_push_size]
    rfl
  · go_simp
    rfl

/-- What Join hands back, as its users see it. -/
def JV (w : World) (a1 a2 : Addr) (v : Value) (r1 r2 : Bool) : Prop :=
  Ifc v ∧ Opnd w v ∧ ∀ (w' : World) (d : Nat) (u : Value), Below w.heap.size w w' → Chain w' v d u → Ans w' u a1 r1 ∧ Ans w' u a2 r2

theorem ans0_err (a b : Addr) (ca cb : Array Value) (ta tb : TypeId) (w : World) (ha : w.heap[a.block]? = some (.cells ca ta (0, 0))) (hb : w.heap[b.block]? = some (.cells cb tb (0, 0))) :
    Ans0 w (.iface 74 (.pointer (some a))) b (decide (a = b)) := by
  by_cases hab : a = b
  · subst hab
    rw [decide_eq_true rfl]
    exact is0_same a w 0 _ rfl
  · rw [decide_eq_false hab]
    exact is0_other a b ca cb ta tb w hab ha hb 0 _ rfl

theorem jv_nil (F : Interp) (w : World) (a1 a2 : Addr) (hF : F.answers w.tape) : JV w a1 a2 .nilIface false false :=
  ⟨.inl rfl, opnd_nil F w hF, fun w' d u _ hc => ⟨ans_nil a1 w' d u hc, ans_nil a2 w' d u hc⟩⟩

theorem jv_one (F : Interp) (w : World) (a0 a1 a2 a : Addr) (k : Int) (v : Value) (hF : F.answers w.tape) (hs : Sents w a0 a1 a2) (he : ErrAt w a1 a2 k a) (hj : Join1 w v (.iface 74 (.pointer (some a)))) :
    JV w a1 a2 v (decide (k = 1)) (decide (k = 2)) := by
  obtain ⟨j, jb, rfl, hj0, hj1⟩ := hj
  have lj : j < w.heap.size := World.block_lt_of_cell? w ⟨j, 0, none⟩ hj0
  have ljb : jb < w.heap.size := World.block_lt_of_cell? w ⟨jb, 0, none⟩ hj1
  refine ⟨.inr ⟨_, _, rfl⟩, fun w' b hb hc => ?_, fun w' d u hb hc => ?_⟩
  · obtain ⟨_, ⟨s, h2, _⟩, _⟩ := he.below hb
    refine errorf_join F b j w' (by rw [hb.tape]; exact hF) hc ((text_one j jb a s w' ((hb.cell (by exact lj)).trans hj0) ((hb.cell (by exact ljb)).trans hj1) h2).mono ?_)
    rintro e w'' ⟨rfl, rfl⟩
    exact ⟨⟨_, rfl⟩, Below.refl _ _⟩
  · obtain ⟨⟨c, t, h1⟩, _, h4, h5⟩ := he.below hb
    obtain ⟨_, ⟨_, ⟨c1, t1, b1⟩, _⟩, ⟨_, ⟨c2, t2, b2⟩, _⟩, _⟩ := hs.below hb
    have k0 := (hb.cell (p := ⟨j, 0, none⟩) lj).trans hj0
    have k1 := (hb.cell (p := ⟨jb, 0, none⟩) ljb).trans hj1
    obtain ⟨tt, x, rfl⟩ := hc.isIface
    constructor
    · intro w'' hh
      refine is1_any _ _ a1 _ w'' (is0_join1 a1 74 (.pointer (some a)) _ w'' j jb ((World.cell?_of_block (by rw [hh])).trans k0) ((World.cell?_of_block (by rw [hh])).trans k1) ?_ d _ (hc.heap hh))
      rw [← h4]
      exact ans0_err a a1 c c1 t t1 w'' (by rw [hh]; exact h1) (by rw [hh]; exact b1)
    · intro w'' hh
      refine is1_any _ _ a2 _ w'' (is0_join1 a2 74 (.pointer (some a)) _ w'' j jb ((World.cell?_of_block (by rw [hh])).trans k0) ((World.cell?_of_block (by rw [hh])).trans k1) ?_ d _ (hc.heap hh))
      rw [← h5]
      exact ans0_err a a2 c c2 t t2 w'' (by rw [hh]; exact h1) (by rw [hh]; exact b2)

theorem jv_two (F : Interp) (w : World) (a0 a1 a2 a b : Addr) (k q : Int) (v : Value) (hF : F.answers w.tape) (hs : Sents w a0 a1 a2) (he : ErrAt w a1 a2 k a) (he' : ErrAt w a1 a2 q b) (hj : Join2 w v (.iface 74 (.pointer (some a))) (.iface 74 (.pointer (some b)))) :
    JV w a1 a2 v (decide (k = 1) || decide (q = 1)) (decide (k = 2) || decide (q = 2)) := by
  obtain ⟨j, jb, rfl, hj0, hj1, hj2⟩ := hj
  have lj : j < w.heap.size := World.block_lt_of_cell? w ⟨j, 0, none⟩ hj0
  have ljb : jb < w.heap.size := World.block_lt_of_cell? w ⟨jb, 0, none⟩ hj1
  refine ⟨.inr ⟨_, _, rfl⟩, fun w' b' hb hc => ?_, fun w' d u hb hc => ?_⟩
  · obtain ⟨_, ⟨s, h2, h3⟩, _⟩ := he.below hb
    obtain ⟨_, ⟨s', h2', h3'⟩, _⟩ := he'.below hb
    exact errorf_join F b' j w' (by rw [hb.tape]; exact hF) hc (text_two j jb a b s s' w' ((hb.cell (by exact lj)).trans hj0) ((hb.cell (by exact ljb)).trans hj1) ((hb.cell (by exact ljb)).trans hj2) h2 h2' h3 h3')
  · obtain ⟨⟨c, t, h1⟩, _, h4, h5⟩ := he.below hb
    obtain ⟨⟨c', t', h1'⟩, _, h4', h5'⟩ := he'.below hb
    obtain ⟨_, ⟨_, ⟨c1, t1, b1⟩, _⟩, ⟨_, ⟨c2, t2, b2⟩, _⟩, _⟩ := hs.below hb
    have k0 := (hb.cell (p := ⟨j, 0, none⟩) lj).trans hj0
    have k1 := (hb.cell (p := ⟨jb, 0, none⟩) ljb).trans hj1
    have k2 := (hb.cell (p := ⟨jb, 1, none⟩) ljb).trans hj2
    obtain ⟨tt, x, rfl⟩ := hc.isIface
    constructor
    · intro w'' hh
      refine is1_any _ _ a1 _ w'' (is0_join2 a1 74 74 (.pointer (some a)) (.pointer (some b)) _ _ w'' j jb ((World.cell?_of_block (by rw [hh])).trans k0) ((World.cell?_of_block (by rw [hh])).trans k1) ((World.cell?_of_block (by rw [hh])).trans k2) ?_ ?_ d _ (hc.heap hh))
      · rw [← h4]
        exact ans0_err a a1 c c1 t t1 w'' (by rw [hh]; exact h1) (by rw [hh]; exact b1)
      · rw [← h4']
        exact ans0_err b a1 c' c1 t' t1 w'' (by rw [hh]; exact h1') (by rw [hh]; exact b1)
    · intro w'' hh
      refine is1_any _ _ a2 _ w'' (is0_join2 a2 74 74 (.pointer (some a)) (.pointer (some b)) _ _ w'' j jb ((World.cell?_of_block (by rw [hh])).trans k0) ((World.cell?_of_block (by rw [hh])).trans k1) ((World.cell?_of_block (by rw [hh])).trans k2) ?_ ?_ d _ (hc.heap hh))
      · rw [← h5]
        exact ans0_err a a2 c c2 t t2 w'' (by rw [hh]; exact h1) (by rw [hh]; exact b2)
      · rw [← h5']
        exact ans0_err b a2 c' c2 t' t2 w'' (by rw [hh]; exact h1') (by rw [hh]; exact b2)

end Go.Proofs.Qxb6612514aFmt.Mp
