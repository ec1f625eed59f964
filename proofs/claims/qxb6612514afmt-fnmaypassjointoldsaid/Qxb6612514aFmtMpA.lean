import Derived.Test.Qxb6612514aFmtCards
import Derived.WalkKit
import Derived.WalkSpells
import Derived.WalkLawsBesides
import Derived.Deep.RegionHeld3
import Derived.Below
import Derived.LaidEql
import Derived.Stop.Asserts
import Derived.RowKitTokens
namespace Go.Proofs.Qxb6612514aFmt.Mp
open Go.RowKit Go.Extern.Stop Go.Stop Go.Extern

/-! ### Closed facts: reflectlite.TypeOf(target).Comparable() -/
theorem typ25 (v : Value) (w : World) : (callFunc 25 #[.iface 74 v]).run Tryf.prog w = .ok (.value (.iface 78 (.agg #[.pointer (some ⟨3, 74, none⟩)]))) w := by kernel_rfl
theorem cmp72 (w : World) : (callFunc 72 #[.agg #[.pointer (some ⟨3, 74, none⟩)]]).run Tryf.prog w = .ok (.value (.bool true)) w := by kernel_rfl
theorem isMethodComparable (v : Value) (w : World) : (Go.method 245 78 v "Comparable").run Tryf.prog w = .ok (72, v) w := by kernel_rfl
theorem isComp : (Tryf.prog.info? 74).map (·.comparable) = some true := by kernel_rfl
theorem isSize : (Tryf.prog.info? 76).map (·.size) = some 1 := by kernel_rfl

/-! ### Closed facts on the method sets -/
theorem noIsE (v : Value) (xT : TypeId) (w : World) : (Instr.typeAssert (.iface 74 v) xT 80 true).run Tryf.prog w = .ok (.tuple #[.nilIface, .bool false]) w := run_typeAssert_lacksB Tryf.underlying80 (by kernel_rfl) (by kernel_rfl) v xT w
theorem noUnwrapE (v : Value) (xT : TypeId) (w : World) : (Instr.typeAssert (.iface 74 v) xT 82 true).run Tryf.prog w = .ok (.tuple #[.nilIface, .bool false]) w := run_typeAssert_lacksB Tryf.underlying82 (by kernel_rfl) (by kernel_rfl) v xT w
theorem noUnwrapsE (v : Value) (xT : TypeId) (w : World) : (Instr.typeAssert (.iface 74 v) xT 84 true).run Tryf.prog w = .ok (.tuple #[.nilIface, .bool false]) w := run_typeAssert_lacksB Tryf.underlying84 (by kernel_rfl) (by kernel_rfl) v xT w
theorem noIsW (v : Value) (xT : TypeId) (w : World) : (Instr.typeAssert (.iface 73 v) xT 80 true).run Tryf.prog w = .ok (.tuple #[.nilIface, .bool false]) w := run_typeAssert_lacksB Tryf.underlying80 (by kernel_rfl) (by kernel_rfl) v xT w
theorem hasUnwrapW (v : Value) (xT : TypeId) (w : World) : (Instr.typeAssert (.iface 73 v) xT 82 true).run Tryf.prog w = .ok (.tuple #[.iface 73 v, .bool true]) w := run_typeAssert_hasB Tryf.underlying82 (by kernel_rfl) v xT w
theorem methodUnwrap (v : Value) (w : World) : (Go.method 245 73 v "Unwrap").run Tryf.prog w = .ok (67, v) w := by kernel_rfl
theorem noIsJ (v : Value) (xT : TypeId) (w : World) : (Instr.typeAssert (.iface 62 v) xT 80 true).run Tryf.prog w = .ok (.tuple #[.nilIface, .bool false]) w := run_typeAssert_lacksB Tryf.underlying80 (by kernel_rfl) (by kernel_rfl) v xT w
theorem noUnwrapJ (v : Value) (xT : TypeId) (w : World) : (Instr.typeAssert (.iface 62 v) xT 82 true).run Tryf.prog w = .ok (.tuple #[.nilIface, .bool false]) w := run_typeAssert_lacksB Tryf.underlying82 (by kernel_rfl) (by kernel_rfl) v xT w
theorem hasUnwrapsJ (v : Value) (xT : TypeId) (w : World) : (Instr.typeAssert (.iface 62 v) xT 84 true).run Tryf.prog w = .ok (.tuple #[.iface 62 v, .bool true]) w := run_typeAssert_hasB Tryf.underlying84 (by kernel_rfl) v xT w
theorem methodUnwrapJ (v : Value) (w : World) : (Go.method 245 62 v "Unwrap").run Tryf.prog w = .ok (65, v) w := by kernel_rfl

/-! ### A chain of wraps -/
/-- v is e under d wraps. -/
def Chain (w : World) (e : Value) : Nat → Value → Prop
  | 0, v => v = e
  | d + 1, v => ∃ (b : Nat) (u : Value) (s : ByteArray), v = .iface 73 (.pointer (some ⟨b, 0, none⟩)) ∧ w.cell? ⟨b, 0, none⟩ = some (.string s) ∧ w.cell? ⟨b, 1, none⟩ = some u ∧ Chain w e d u
def inner (w : World) : Value → Value
  | .iface 73 (.pointer (some a)) => (w.cell? ⟨a.block, 1, none⟩).getD .nilIface
  | _ => .nilIface
def wraps : Value → Bool
  | .iface 73 _ => true
  | _ => false
/-- How many wraps are round v (at most n). -/
def dep (w : World) : Nat → Value → Nat
  | 0, _ => 0
  | n + 1, v => if wraps v then dep w n (inner w v) + 1 else 0
theorem dep_chain {w : World} {e : Value} (he : wraps e = false) : ∀ (d n : Nat) (v : Value), Chain w e d v → d ≤ n → dep w n v = d
  | 0, n, v, h, _ => by
    obtain rfl : v = e := h
    cases n with
    | zero => rfl
    | succ n => simp [dep, he]
  | d + 1, n, v, h, hn => by
    obtain ⟨b, u, s, rfl, h0, h1, hc⟩ := h
    obtain ⟨m, rfl⟩ : ∃ m, n = m + 1 := ⟨n - 1, by omega⟩
    have e1 : inner w (.iface 73 (.pointer (some ⟨b, 0, none⟩))) = u := by simp [inner, h1]
    have ih := dep_chain he d m u hc (by omega)
    simp [dep, wraps, e1, ih]
theorem Chain.below {w w' : World} {e : Value} (hb : Below w.heap.size w w') : ∀ (d : Nat) (v : Value), Chain w e d v → Chain w' e d v
  | 0, _, h => h
  | d + 1, _, h => by
    obtain ⟨b, u, s, rfl, h0, h1, hc⟩ := h
    have hlt : b < w.heap.size := World.block_lt_of_cell? w ⟨b, 0, none⟩ h0
    exact ⟨b, u, s, rfl, (hb.cell (by exact hlt)).trans h0, (hb.cell (by exact hlt)).trans h1, Chain.below hb d u hc⟩
theorem Chain.isIface {w : World} {t0 : TypeId} {x0 : Value} {d : Nat} {v : Value} (h : Chain w (.iface t0 x0) d v) : ∃ t x, v = .iface t x := by
  cases d with
  | zero => exact ⟨_, _, h⟩
  | succ d => obtain ⟨b, u, s, rfl, _⟩ := h; exact ⟨_, _, rfl⟩

end Go.Proofs.Qxb6612514aFmt.Mp
