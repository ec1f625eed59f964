import Derived.Test.Qxb6613802aDecB
namespace Go.Proofs.Qxb6613802a.Dec
open Go.RowKit

attribute [local go_sem] run_store_float

/-- What the walk is told of a slice of LimitIn that came in. -/
def LimOk (w : World) (a : Option Addr) (len cap : Nat) : Prop :=
  (a = none ∧ len = 0 ∧ cap = 0) ∨ (len = 0 ∧ a.isSome = true) ∨
  ∃ (b off : Nat) (X : Nat → Int) (Y Z : Nat → Nat), a = some ⟨b, off, none⟩ ∧ b < w.heap.size ∧
    ∀ j, j < len → w.cell? ⟨b, off + j * 3, none⟩ = some (.int .i64 (X j)) ∧ w.cell? ⟨b, off + j * 3 + 1, none⟩ = some (.float .f64 (Y j)) ∧ w.cell? ⟨b, off + j * 3 + 2, none⟩ = some (.float .f64 (Z j))

theorem LimOk.below {w w' : World} {a : Option Addr} {len cap : Nat} (h : LimOk w a len cap) (hb : Below w.heap.size w w') : LimOk w' a len cap := by
  rcases h with h | h | ⟨b, off, X, Y, Z, ha, hlt, hc⟩
  · exact .inl h
  · exact .inr (.inl h)
  · refine .inr (.inr ⟨b, off, X, Y, Z, ha, Nat.lt_of_lt_of_le hlt hb.size, fun j hj => ?_⟩)
    obtain ⟨h0, h1, h2⟩ := hc j hj
    exact ⟨(hb.cell (by exact hlt)).trans h0, (hb.cell (by exact hlt)).trans h1, (hb.cell (by exact hlt)).trans h2⟩
theorem lim_any0 (a : Option Addr) (len cap : Nat) (w : World) (h : LimOk w a len cap) (hl : len ≤ 16384) :
    Calls Try.prog 18 #[.slice a len cap] w fun e w' => (∃ a' n c, e = .returned (.slice a' n c)) ∧ Below w.heap.size w w' := by
  rcases h with ⟨rfl, rfl, rfl⟩ | ⟨rfl, h⟩ | ⟨b, off, X, Y, Z, rfl, hlt, hc⟩
  · refine (lim_nil w).mono ?_
    rintro e w' ⟨rfl, rfl⟩
    exact ⟨⟨_, _, _, rfl⟩, Below.refl _ _⟩
  · obtain ⟨ad, rfl⟩ := Option.isSome_iff_exists.1 h
    refine (lim_empty ad cap w).mono ?_
    rintro e w' ⟨rfl, hb⟩
    exact ⟨⟨_, _, _, rfl⟩, hb⟩
  · refine (lim_some b off len cap X Y Z w hl hlt hc).mono ?_
    rintro e w' ⟨rfl, hb⟩
    exact ⟨⟨_, _, _, rfl⟩, hb⟩

theorem lim_any (a : Option Addr) (len cap : Nat) (w0 w : World) (h : LimOk w0 a len cap) (hl : len ≤ 16384) (hb : Below w0.heap.size w0 w) :
    Calls Try.prog 18 #[.slice a len cap] w fun e w' => (∃ a' n c, e = .returned (.slice a' n c)) ∧ Below w.heap.size w w' ∧ Below w0.heap.size w0 w' :=
  (lim_any0 a len cap w (h.below hb) hl).mono fun _ _ ⟨h1, h2⟩ => ⟨h1, h2, hb.trans (h2.mono hb.size)⟩

theorem bcell {W w1 : World} (hb : Below W.heap.size W w1) : (∀ b o, b < W.heap.size → w1.cell? ⟨b, o, none⟩ = W.cell? ⟨b, o, none⟩) ∧ (∀ b o, b < W.heap.size → w1.frozen? ⟨b, o, none⟩ = W.frozen? ⟨b, o, none⟩) :=
  ⟨fun b o h => hb.cell (p := ⟨b, o, none⟩) h, fun b o h => hb.frozen (p := ⟨b, o, none⟩) h⟩

theorem build41 (n0 n11 n12 n15 n16 n21 n22 d : Int) (x1 x2 x3 x4 x5 x6 x7 x8 x13 x14 x17 x18 x19 : Nat) (a9 a10 : Option Addr) (l9 k9 l10 k10 : Nat) (w : World) : (Instr.build 41 #[(0, .int .i64 n0), (1, .float .f64 x1), (2, .float .f64 x2), (3, .float .f64 x3), (4, .float .f64 x4), (5, .float .f64 x5), (6, .float .f64 x6), (7, .float .f64 x7), (8, .float .f64 x8), (9, .slice a9 l9 k9), (10, .slice a10 l10 k10), (11, .int .i64 n11), (12, .int .i64 n12), (13, .float .f64 x13), (14, .float .f64 x14), (15, .int .i64 n15), (16, .int .i64 n16), (17, .float .f64 x17), (18, .float .f64 x18), (19, .float .f64 x19), (20, .int .i64 d), (21, .int .i64 n21), (22, .int .i64 n22)]).run Try.prog w = .ok (.agg #[.int .i64 n0, .float .f64 x1, .float .f64 x2, .float .f64 x3, .float .f64 x4, .float .f64 x5, .float .f64 x6, .float .f64 x7, .float .f64 x8, .slice a9 l9 k9, .slice a10 l10 k10, .int .i64 n11, .int .i64 n12, .float .f64 x13, .float .f64 x14, .int .i64 n15, .int .i64 n16, .float .f64 x17, .float .f64 x18, .float .f64 x19, .int .i64 d, .int .i64 n21, .int .i64 n22]) w := by kernel_rfl
theorem info41 : (Try.prog.info? 41).map (·.size) = some 23 := by kernel_rfl
theorem store41 (n0 n11 n12 n15 n16 n21 n22 d : Int) (x1 x2 x3 x4 x5 x6 x7 x8 x13 x14 x17 x18 x19 : Nat) (a9 a10 : Option Addr) (l9 k9 l10 k10 : Nat) (b : Nat) (w : World) (ht : w.there b 0 23) : (Instr.storeAt 41 (.pointer (some ⟨b, 0, none⟩)) (.agg #[.int .i64 n0, .float .f64 x1, .float .f64 x2, .float .f64 x3, .float .f64 x4, .float .f64 x5, .float .f64 x6, .float .f64 x7, .float .f64 x8, .slice a9 l9 k9, .slice a10 l10 k10, .int .i64 n11, .int .i64 n12, .float .f64 x13, .float .f64 x14, .int .i64 n15, .int .i64 n16, .float .f64 x17, .float .f64 x18, .float .f64 x19, .int .i64 d, .int .i64 n21, .int .i64 n22])).run Try.prog w = .ok () (w.setCells b 0 [.int .i64 n0, .float .f64 x1, .float .f64 x2, .float .f64 x3, .float .f64 x4, .float .f64 x5, .float .f64 x6, .float .f64 x7, .float .f64 x8, .slice a9 l9 k9, .slice a10 l10 k10, .int .i64 n11, .int .i64 n12, .float .f64 x13, .float .f64 x14, .int .i64 n15, .int .i64 n16, .float .f64 x17, .float .f64 x18, .float .f64 x19, .int .i64 d, .int .i64 n21, .int .i64 n22]) :=
  run_storeAt_mid w b 0 41 #[.int .i64 n0, .float .f64 x1, .float .f64 x2, .float .f64 x3, .float .f64 x4, .float .f64 x5, .float .f64 x6, .float .f64 x7, .float .f64 x8, .slice a9 l9 k9, .slice a10 l10 k10, .int .i64 n11, .int .i64 n12, .float .f64 x13, .float .f64 x14, .int .i64 n15, .int .i64 n16, .float .f64 x17, .float .f64 x18, .float .f64 x19, .int .i64 d, .int .i64 n21, .int .i64 n22] ht info41 (by simp [Value.oneCell'])
theorem load41 (n0 n11 n12 n15 n16 n21 n22 d : Int) (x1 x2 x3 x4 x5 x6 x7 x8 x13 x14 x17 x18 x19 : Nat) (a9 a10 : Option Addr) (l9 k9 l10 k10 : Nat) (b : Nat) (w : World) (ht : w.rangeAt b 0 [.int .i64 n0, .float .f64 x1, .float .f64 x2, .float .f64 x3, .float .f64 x4, .float .f64 x5, .float .f64 x6, .float .f64 x7, .float .f64 x8, .slice a9 l9 k9, .slice a10 l10 k10, .int .i64 n11, .int .i64 n12, .float .f64 x13, .float .f64 x14, .int .i64 n15, .int .i64 n16, .float .f64 x17, .float .f64 x18, .float .f64 x19, .int .i64 d, .int .i64 n21, .int .i64 n22]) : (loadVar 41 ⟨b, 0, none⟩).run Try.prog w = .ok (.agg #[.int .i64 n0, .float .f64 x1, .float .f64 x2, .float .f64 x3, .float .f64 x4, .float .f64 x5, .float .f64 x6, .float .f64 x7, .float .f64 x8, .slice a9 l9 k9, .slice a10 l10 k10, .int .i64 n11, .int .i64 n12, .float .f64 x13, .float .f64 x14, .int .i64 n15, .int .i64 n16, .float .f64 x17, .float .f64 x18, .float .f64 x19, .int .i64 d, .int .i64 n21, .int .i64 n22]) w :=
  run_loadVar_mid w b 0 41 [.int .i64 n0, .float .f64 x1, .float .f64 x2, .float .f64 x3, .float .f64 x4, .float .f64 x5, .float .f64 x6, .float .f64 x7, .float .f64 x8, .slice a9 l9 k9, .slice a10 l10 k10, .int .i64 n11, .int .i64 n12, .float .f64 x13, .float .f64 x14, .int .i64 n15, .int .i64 n16, .float .f64 x17, .float .f64 x18, .float .f64 x19, .int .i64 d, .int .i64 n21, .int .i64 n22] _ ht Try.underlying41 rfl info41
theorem results_cell {fn : Func} {p : Tmp} {ty : TypeId} (h : fn.results = #[.cell p ty]) (tmps : Array Value) (P : Program) (w : World) :
    (results fn tmps).run P w = ((asAddr (tmps.getD p undef)).run P w).andThen fun a w₁ => (loadVar ty a).run P w₁ := by
  simp only [results, h]
  simp [Sem.run_bind, Result.andThen]

theorem asAddr_run (a : Addr) (W : World) : (asAddr (.pointer (some a))).run Try.prog W = .ok a W := rfl
theorem fin15 (n0 n11 n12 n15 n16 n21 n22 d : Int) (x1 x2 x3 x4 x5 x6 x7 x8 x13 x14 x17 x18 x19 : Nat) (a9 a10 : Option Addr) (l9 k9 l10 k10 : Nat) (b : Nat) (W : World) (tmps : Array Value) (ht : tmps.getD 2 undef = .pointer (some ⟨b, 0, none⟩)) (hr : W.rangeAt b 0 [.int .i64 n0, .float .f64 x1, .float .f64 x2, .float .f64 x3, .float .f64 x4, .float .f64 x5, .float .f64 x6, .float .f64 x7, .float .f64 x8, .slice a9 l9 k9, .slice a10 l10 k10, .int .i64 n11, .int .i64 n12, .float .f64 x13, .float .f64 x14, .int .i64 n15, .int .i64 n16, .float .f64 x17, .float .f64 x18, .float .f64 x19, .int .i64 d, .int .i64 n21, .int .i64 n22]) :
    (results Try.f15 tmps).run Try.prog W = .ok (.agg #[.int .i64 n0, .float .f64 x1, .float .f64 x2, .float .f64 x3, .float .f64 x4, .float .f64 x5, .float .f64 x6, .float .f64 x7, .float .f64 x8, .slice a9 l9 k9, .slice a10 l10 k10, .int .i64 n11, .int .i64 n12, .float .f64 x13, .float .f64 x14, .int .i64 n15, .int .i64 n16, .float .f64 x17, .float .f64 x18, .float .f64 x19, .int .i64 d, .int .i64 n21, .int .i64 n22]) W := by
  rw [results_cell Try.results15, ht, asAddr_run]
  simp only [Result.andThen_ok]
  exact load41 n0 n11 n12 n15 n16 n21 n22 d x1 x2 x3 x4 x5 x6 x7 x8 x13 x14 x17 x18 x19 a9 a10 l9 k9 l10 k10 b W hr

end Go.Proofs.Qxb6613802a.Dec

