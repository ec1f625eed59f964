import Derived.Test.Qxb6609558aFmtClmB
namespace Go.Proofs.Qxb6609558aFmt.Clm
open Go.RowKit Go.Extern.Stop Go.Stop Go.Extern

set_option maxHeartbeats 1000000 in
theorem take_there (r m : Nat) (L : List (ByteArray × Value)) (fb req : Bool) (s : ByteArray) (v : Value) (w : World) (hr : RdrAt w r m fb) (hm : MapAt w m L) (hne : m < r) (hv : lk L s = some v) :
    Calls Tryf.prog 17 #[.pointer (some ⟨r, 0, none⟩), .string s, .bool req] w fun e w' => e = .returned (.tuple #[v, .bool true]) ∧ RdrAt w' r m fb ∧ MapAt w' m (del L s) ∧ Below m w w' ∧ w'.heap.size = w.heap.size := by
  have hl := run_lookup w m L s hm
  rw [hv] at hl
  simp only [Option.getD_some, Option.isSome_some] at hl
  obtain ⟨w1, hd, hm1, hg1, hs1⟩ := run_delete w m L s 0 hm
  have hr1 := hr.grown hg1 hne
  obtain ⟨h0, ⟨u, h1, h2⟩, h3⟩ := hr
  go_enter Tryf.func17, Tryf.ntmps17
  go_wp2
  go_ret2
  exact ⟨rfl, hr1, hm1, (Below.refl _ _).grown hg1 (Nat.le_of_lt (by obtain ⟨es, c, h, _⟩ := hm; exact (Array.getElem?_eq_some_iff.1 h).1)) (by intro k e; injection e with e; omega), hs1⟩

theorem MapAt.lt {w : World} {m : Nat} {L : List (ByteArray × Value)} (h : MapAt w m L) : m < w.heap.size := by
  obtain ⟨es, c, h, _⟩ := h
  exact (Array.getElem?_eq_some_iff.1 h).1
theorem below_grown {w w' : World} {m : Nat} (hg : w.grownBy w' (some m)) (hm : m < w.heap.size) : Below m w w' :=
  (Below.refl _ _).grown hg (Nat.le_of_lt hm) (by intro k e; injection e with e; omega)

set_option maxHeartbeats 1000000 in
theorem take_opt (r m : Nat) (L : List (ByteArray × Value)) (fb : Bool) (s : ByteArray) (w : World) (hr : RdrAt w r m fb) (hm : MapAt w m L) (hne : m < r) (hv : lk L s = none) :
    Calls Tryf.prog 17 #[.pointer (some ⟨r, 0, none⟩), .string s, .bool false] w fun e w' => e = .returned (.tuple #[.nilIface, .bool false]) ∧ RdrAt w' r m fb ∧ MapAt w' m (del L s) ∧ Below m w w' ∧ w'.heap.size = w.heap.size := by
  have hl := run_lookup w m L s hm
  rw [hv] at hl
  simp only [Option.getD_none, Option.isSome_none] at hl
  obtain ⟨w1, hd, hm1, hg1, hs1⟩ := run_delete w m L s 0 hm
  have hr1 := hr.grown hg1 hne
  have hb1 := below_grown hg1 hm.lt
  obtain ⟨h0, ⟨u, h1, h2⟩, h3⟩ := hr
  go_enter Tryf.func17, Tryf.ntmps17
  go_wp2
  go_ret2
  exact ⟨rfl, hr1, hm1, hb1, hs1⟩

set_option maxHeartbeats 1000000 in
theorem take_req (F : Interp) (r m : Nat) (L : List (ByteArray × Value)) (fb : Bool) (s : ByteArray) (w : World) (hF : F.answers w.tape) (hr : RdrAt w r m fb) (hm : MapAt w m L) (hne : m < r) (hv : lk L s = none) :
    Calls Tryf.prog 17 #[.pointer (some ⟨r, 0, none⟩), .string s, .bool true] w fun e w' => e = .returned (.tuple #[.nilIface, .bool false]) ∧ RdrAt w' r m true ∧ MapAt w' m (del L s) ∧ Below m w w' ∧ w.heap.size ≤ w'.heap.size := by
  have hl := run_lookup w m L s hm
  rw [hv] at hl
  simp only [Option.getD_none, Option.isSome_none] at hl
  obtain ⟨w1, hd, hm1, hg1, hs1⟩ := run_delete w m L s 0 hm
  have hr1 := hr.grown hg1 hne
  have hb1 := below_grown hg1 hm.lt
  have hrs : r < w1.heap.size := World.block_lt_of_cell? w1 ⟨r, 0, none⟩ hr1.1
  obtain ⟨g0, ⟨u, g1, g2⟩, g3⟩ := hr1
  have HR1 : Hid (RdrAt w1 r m fb) := ⟨g0, ⟨u, g1, g2⟩, g3⟩
  obtain ⟨h0, ⟨u', h1, h2⟩, h3⟩ := hr
  have hF1 : F.answers w1.tape := by rw [hg1.tape]; exact hF
  clear hs1
  go_enter Tryf.func17, Tryf.ntmps17
  go_wp2_with (first | (go_at_call 20; refine (errorf_any F s w1.heap.size (w1.alloc (.cells #[.iface 9 (.string s)] 20)) hF1 (by simp)).mono ?_; rintro e w2 ⟨⟨x, rfl⟩, hb2⟩) | (go_at_call 19; refine (fail_any r m (del L s) fb x w2 ((HR1.out.below ((Below.refl _ _).alloc (Nat.le_refl _) _) hrs).below hb2 (by simp; omega)) ((hm1.below ((Below.refl _ _).alloc (Nat.le_refl _) _) hm1.lt).below hb2 (by have := hm1.lt; simp; omega)) hne).mono ?_; rintro e w3 ⟨rfl, hr3, hm3, hb3, hs3⟩))
  go_ret2
  refine ⟨rfl, hr3, hm3, ?_, ?_⟩
  · have b1 : Below m w (w1.alloc (.cells #[.iface 9 (.string s)] 20)) := hb1.alloc (Nat.le_of_lt hm1.lt) _
    exact (b1.trans (hb2.mono (by have := hm1.lt; simp; omega))).trans (hb3.mono (by omega))
  · have := hb1.size
    have := hb2.size
    simp at this
    omega

/-- take, whatever. -/
theorem take_any (F : Interp) (r m : Nat) (L : List (ByteArray × Value)) (fb req : Bool) (s : ByteArray) (w : World) (hF : F.answers w.tape) (hr : RdrAt w r m fb) (hm : MapAt w m L) (hne : m < r) :
    Calls Tryf.prog 17 #[.pointer (some ⟨r, 0, none⟩), .string s, .bool req] w fun e w' => e = .returned (.tuple #[(lk L s).getD .nilIface, .bool (lk L s).isSome]) ∧ RdrAt w' r m (fb || (!(lk L s).isSome && req)) ∧ MapAt w' m (del L s) ∧ Below m w w' ∧ w.heap.size ≤ w'.heap.size := by
  cases hv : lk L s with
  | some v =>
    refine (take_there r m L fb req s v w hr hm hne hv).mono ?_
    rintro e w' ⟨rfl, h1, h2, h3, h4⟩
    exact ⟨rfl, by simpa using h1, h2, h3, by omega⟩
  | none =>
    cases req with
    | false =>
      refine (take_opt r m L fb s w hr hm hne hv).mono ?_
      rintro e w' ⟨rfl, h1, h2, h3, h4⟩
      exact ⟨rfl, by simpa using h1, h2, h3, by omega⟩
    | true =>
      refine (take_req F r m L fb s w hF hr hm hne hv).mono ?_
      rintro e w' ⟨rfl, h1, h2, h3, h4⟩
      exact ⟨rfl, by simpa using h1, h2, h3, h4⟩

/-- Every value of the list is a string or a number's text. -/
def HeldAll (L : List (ByteArray × Value)) : Prop := ∀ s, Held ((lk L s).getD .nilIface)

set_option maxHeartbeats 1000000 in
theorem zztake (F : Interp) (r m : Nat) (L : List (ByteArray × Value)) (fb req : Bool) (s : ByteArray) (w : World) (hF : F.answers w.tape) (hr : RdrAt w r m fb) (hm : MapAt w m L) (hne : m < r) (hh : HeldAll L) :
    Calls Tryf.prog 13 #[.pointer (some ⟨r, 0, none⟩), .string s, .bool req] w fun e w' => e = .returned (.tuple #[.string (txt ((lk L s).getD .nilIface)), .bool (num ((lk L s).getD .nilIface)), .bool (lk L s).isSome]) ∧
      RdrAt w' r m (fb || (!(lk L s).isSome && req)) ∧ MapAt w' m (del L s) ∧ Below m w w' ∧ w.heap.size ≤ w'.heap.size := by
  have HC : Hid (Calls Tryf.prog 17 #[.pointer (some ⟨r, 0, none⟩), .string s, .bool req] w fun e w' => e = .returned (.tuple #[(lk L s).getD .nilIface, .bool (lk L s).isSome]) ∧ RdrAt w' r m (fb || (!(lk L s).isSome && req)) ∧ MapAt w' m (del L s) ∧ Below m w w' ∧ w.heap.size ≤ w'.heap.size) := take_any F r m L fb req s w hF hr hm hne
  have HV : Hid (Held ((lk L s).getD .nilIface)) := hh s
  clear hh hr hm hF
  generalize (lk L s).getD .nilIface = v at *
  generalize (lk L s).isSome = ok at *
  go_enter Tryf.func13, Tryf.ntmps13
  go_wp2_with (first | (go_at_call 17; refine HC.out.mono ?_; rintro e w1 ⟨rfl, h1, h2, h3, h4⟩) | (go_at_call 18; refine (plain_any v _ HV.out).mono ?_; rintro e w2 ⟨rfl, rfl⟩))
  go_ret3
  exact ⟨rfl, h1, h2, h3, h4⟩

set_option maxHeartbeats 1000000 in
theorem zzget (r m : Nat) (L : List (ByteArray × Value)) (fb : Bool) (s : ByteArray) (w : World) (hr : RdrAt w r m fb) (hm : MapAt w m L) (hh : HeldAll L) :
    Calls Tryf.prog 14 #[.pointer (some ⟨r, 0, none⟩), .string s] w fun e w' => e = .returned (.tuple #[.string (txt ((lk L s).getD .nilIface)), .bool (num ((lk L s).getD .nilIface)), .bool (lk L s).isSome]) ∧ w = w' := by
  have hl := run_lookup w m L s hm
  have HV : Hid (Held ((lk L s).getD .nilIface)) := hh s
  obtain ⟨h0, ⟨u, h1, h2⟩, h3⟩ := hr
  clear hh hm
  generalize (lk L s).getD .nilIface = v at *
  generalize (lk L s).isSome = ok at *
  go_enter Tryf.func14, Tryf.ntmps14
  go_wp2_with (first | (go_at_call 18; refine (plain_any v _ HV.out).mono ?_; rintro e w2 ⟨rfl, rfl⟩))
  go_ret3
  exact ⟨rfl, rfl⟩

set_option maxHeartbeats 400000 in
theorem zzlen (r m : Nat) (L : List (ByteArray × Value)) (fb : Bool) (w : World) (hr : RdrAt w r m fb) (hm : MapAt w m L) :
    Calls Tryf.prog 10 #[.pointer (some ⟨r, 0, none⟩)] w fun e w' => e = .returned (.int .i64 (L.length : Int)) ∧ w = w' := by
  have hl := fun ty => run_len w m L ty hm
  obtain ⟨h0, ⟨u, h1, h2⟩, h3⟩ := hr
  go_enter Tryf.func10, Tryf.ntmps10
  go_wp2
  go_ret
  exact ⟨rfl, rfl⟩

set_option maxHeartbeats 400000 in
theorem zzfailed (r m : Nat) (fb : Bool) (w : World) (hr : RdrAt w r m fb) :
    Calls Tryf.prog 11 #[.pointer (some ⟨r, 0, none⟩)] w fun e w' => e = .returned (.bool fb) ∧ w = w' := by
  obtain ⟨h0, ⟨u, h1, h2⟩, h3⟩ := hr
  rcases h2 with ⟨rfl, rfl⟩ | ⟨rfl, x, rfl⟩
  · go_enter Tryf.func11, Tryf.ntmps11
    go_wp2
    go_ret
    exact ⟨rfl, rfl⟩
  · go_enter Tryf.func11, Tryf.ntmps11
    go_wp2
    go_ret
    exact ⟨rfl, rfl⟩

end Go.Proofs.Qxb6609558aFmt.Clm
