/-
  What all three walks share: how a type assertion to a named type answers at a known dynamic type.
-/
import Derived.Test.YtdpnoaaeplgdjaaGreatDoorProg
import Derived.WalkKit
import Derived.WalkSpells
import Derived.WalkLawsBesides
import Derived.KernelRfl
namespace Go.Proofs.YtdpnoaaeplgdjaaGreatDoor
open Go.RowKit

namespace Base

/-- A type that is no interface. -/
def plainType : TypeDesc → Bool
  | .interface _ => false
  | _ => true

theorem ta_hit {P : Program} {T : TypeId} {u : TypeDesc} (hu : P.underlying T = some u) (hp : plainType u = true) (v : Value) (xT : TypeId) (w : World) :
    (Instr.typeAssert (.iface T v) xT T true).run P w = .ok (.tuple #[v, .bool true]) w := by
  cases u <;> simp_all [Instr.typeAssert, run_underlying hu, plainType]

theorem ta_one {P : Program} {T : TypeId} {u : TypeDesc} (hu : P.underlying T = some u) (hp : plainType u = true) (v : Value) (xT : TypeId) (w : World) :
    (Instr.typeAssert (.iface T v) xT T false).run P w = .ok v w := by
  cases u <;> simp_all [Instr.typeAssert, run_underlying hu, plainType]

theorem ta_miss {P : Program} {t T : TypeId} {u : TypeDesc} {z : Value} (hu : P.underlying T = some u) (hp : plainType u = true) (hz : ∀ w, (zeroValue T).run P w = .ok z w) (hne : t ≠ T) (v : Value) (xT : TypeId) (w : World) :
    (Instr.typeAssert (.iface t v) xT T true).run P w = .ok (.tuple #[z, .bool false]) w := by
  cases u <;> simp_all [Instr.typeAssert, run_underlying hu, plainType]

theorem zero85 (w : World) : (zeroValue 85).run Tryz.prog w = .ok (.agg #[]) w := by kernel_rfl
theorem hit85 (v : Value) (xT : TypeId) (w : World) : (Instr.typeAssert (.iface 85 v) xT 85 true).run Tryz.prog w = .ok (.tuple #[v, .bool true]) w := ta_hit Tryz.underlying85 rfl v xT w
theorem one85 (v : Value) (xT : TypeId) (w : World) : (Instr.typeAssert (.iface 85 v) xT 85 false).run Tryz.prog w = .ok v w := ta_one Tryz.underlying85 rfl v xT w
theorem miss85 (t : TypeId) (v : Value) (xT : TypeId) (w : World) (h : t ≠ 85) : (Instr.typeAssert (.iface t v) xT 85 true).run Tryz.prog w = .ok (.tuple #[.agg #[], .bool false]) w := ta_miss Tryz.underlying85 rfl zero85 h v xT w
attribute [go_sem] hit85 one85 miss85
theorem zero111 (w : World) : (zeroValue 111).run Tryz.prog w = .ok (.bool false) w := by kernel_rfl
theorem hit111 (v : Value) (xT : TypeId) (w : World) : (Instr.typeAssert (.iface 111 v) xT 111 true).run Tryz.prog w = .ok (.tuple #[v, .bool true]) w := ta_hit Tryz.underlying111 rfl v xT w
theorem one111 (v : Value) (xT : TypeId) (w : World) : (Instr.typeAssert (.iface 111 v) xT 111 false).run Tryz.prog w = .ok v w := ta_one Tryz.underlying111 rfl v xT w
theorem miss111 (t : TypeId) (v : Value) (xT : TypeId) (w : World) (h : t ≠ 111) : (Instr.typeAssert (.iface t v) xT 111 true).run Tryz.prog w = .ok (.tuple #[.bool false, .bool false]) w := ta_miss Tryz.underlying111 rfl zero111 h v xT w
attribute [go_sem] hit111 one111 miss111
theorem zero86 (w : World) : (zeroValue 86).run Tryz.prog w = .ok (.int .i64 0) w := by kernel_rfl
theorem hit86 (v : Value) (xT : TypeId) (w : World) : (Instr.typeAssert (.iface 86 v) xT 86 true).run Tryz.prog w = .ok (.tuple #[v, .bool true]) w := ta_hit Tryz.underlying86 rfl v xT w
theorem one86 (v : Value) (xT : TypeId) (w : World) : (Instr.typeAssert (.iface 86 v) xT 86 false).run Tryz.prog w = .ok v w := ta_one Tryz.underlying86 rfl v xT w
theorem miss86 (t : TypeId) (v : Value) (xT : TypeId) (w : World) (h : t ≠ 86) : (Instr.typeAssert (.iface t v) xT 86 true).run Tryz.prog w = .ok (.tuple #[.int .i64 0, .bool false]) w := ta_miss Tryz.underlying86 rfl zero86 h v xT w
attribute [go_sem] hit86 one86 miss86
theorem zero89 (w : World) : (zeroValue 89).run Tryz.prog w = .ok (.agg #[.pointer none]) w := by kernel_rfl
theorem hit89 (v : Value) (xT : TypeId) (w : World) : (Instr.typeAssert (.iface 89 v) xT 89 true).run Tryz.prog w = .ok (.tuple #[v, .bool true]) w := ta_hit Tryz.underlying89 rfl v xT w
theorem one89 (v : Value) (xT : TypeId) (w : World) : (Instr.typeAssert (.iface 89 v) xT 89 false).run Tryz.prog w = .ok v w := ta_one Tryz.underlying89 rfl v xT w
theorem miss89 (t : TypeId) (v : Value) (xT : TypeId) (w : World) (h : t ≠ 89) : (Instr.typeAssert (.iface t v) xT 89 true).run Tryz.prog w = .ok (.tuple #[.agg #[.pointer none], .bool false]) w := ta_miss Tryz.underlying89 rfl zero89 h v xT w
attribute [go_sem] hit89 one89 miss89
theorem zero92 (w : World) : (zeroValue 92).run Tryz.prog w = .ok (.agg #[.pointer none]) w := by kernel_rfl
theorem hit92 (v : Value) (xT : TypeId) (w : World) : (Instr.typeAssert (.iface 92 v) xT 92 true).run Tryz.prog w = .ok (.tuple #[v, .bool true]) w := ta_hit Tryz.underlying92 rfl v xT w
theorem one92 (v : Value) (xT : TypeId) (w : World) : (Instr.typeAssert (.iface 92 v) xT 92 false).run Tryz.prog w = .ok v w := ta_one Tryz.underlying92 rfl v xT w
theorem miss92 (t : TypeId) (v : Value) (xT : TypeId) (w : World) (h : t ≠ 92) : (Instr.typeAssert (.iface t v) xT 92 true).run Tryz.prog w = .ok (.tuple #[.agg #[.pointer none], .bool false]) w := ta_miss Tryz.underlying92 rfl zero92 h v xT w
attribute [go_sem] hit92 one92 miss92
theorem zero95 (w : World) : (zeroValue 95).run Tryz.prog w = .ok (.agg #[.pointer none]) w := by kernel_rfl
theorem hit95 (v : Value) (xT : TypeId) (w : World) : (Instr.typeAssert (.iface 95 v) xT 95 true).run Tryz.prog w = .ok (.tuple #[v, .bool true]) w := ta_hit Tryz.underlying95 rfl v xT w
theorem one95 (v : Value) (xT : TypeId) (w : World) : (Instr.typeAssert (.iface 95 v) xT 95 false).run Tryz.prog w = .ok v w := ta_one Tryz.underlying95 rfl v xT w
theorem miss95 (t : TypeId) (v : Value) (xT : TypeId) (w : World) (h : t ≠ 95) : (Instr.typeAssert (.iface t v) xT 95 true).run Tryz.prog w = .ok (.tuple #[.agg #[.pointer none], .bool false]) w := ta_miss Tryz.underlying95 rfl zero95 h v xT w
attribute [go_sem] hit95 one95 miss95
theorem zero97 (w : World) : (zeroValue 97).run Tryz.prog w = .ok (.agg #[.nilIface, .nilIface]) w := by kernel_rfl
theorem hit97 (v : Value) (xT : TypeId) (w : World) : (Instr.typeAssert (.iface 97 v) xT 97 true).run Tryz.prog w = .ok (.tuple #[v, .bool true]) w := ta_hit Tryz.underlying97 rfl v xT w
theorem one97 (v : Value) (xT : TypeId) (w : World) : (Instr.typeAssert (.iface 97 v) xT 97 false).run Tryz.prog w = .ok v w := ta_one Tryz.underlying97 rfl v xT w
theorem miss97 (t : TypeId) (v : Value) (xT : TypeId) (w : World) (h : t ≠ 97) : (Instr.typeAssert (.iface t v) xT 97 true).run Tryz.prog w = .ok (.tuple #[.agg #[.nilIface, .nilIface], .bool false]) w := ta_miss Tryz.underlying97 rfl zero97 h v xT w
attribute [go_sem] hit97 one97 miss97
theorem zero125 (w : World) : (zeroValue 125).run Tryz.prog w = .ok (.pointer none) w := by kernel_rfl
theorem hit125 (v : Value) (xT : TypeId) (w : World) : (Instr.typeAssert (.iface 125 v) xT 125 true).run Tryz.prog w = .ok (.tuple #[v, .bool true]) w := ta_hit Tryz.underlying125 rfl v xT w
theorem one125 (v : Value) (xT : TypeId) (w : World) : (Instr.typeAssert (.iface 125 v) xT 125 false).run Tryz.prog w = .ok v w := ta_one Tryz.underlying125 rfl v xT w
theorem miss125 (t : TypeId) (v : Value) (xT : TypeId) (w : World) (h : t ≠ 125) : (Instr.typeAssert (.iface t v) xT 125 true).run Tryz.prog w = .ok (.tuple #[.pointer none, .bool false]) w := ta_miss Tryz.underlying125 rfl zero125 h v xT w
attribute [go_sem] hit125 one125 miss125
theorem zero4 (w : World) : (zeroValue 4).run Tryz.prog w = .ok (.bool false) w := by kernel_rfl
theorem hit4 (v : Value) (xT : TypeId) (w : World) : (Instr.typeAssert (.iface 4 v) xT 4 true).run Tryz.prog w = .ok (.tuple #[v, .bool true]) w := ta_hit Tryz.underlying4 rfl v xT w
theorem one4 (v : Value) (xT : TypeId) (w : World) : (Instr.typeAssert (.iface 4 v) xT 4 false).run Tryz.prog w = .ok v w := ta_one Tryz.underlying4 rfl v xT w
theorem miss4 (t : TypeId) (v : Value) (xT : TypeId) (w : World) (h : t ≠ 4) : (Instr.typeAssert (.iface t v) xT 4 true).run Tryz.prog w = .ok (.tuple #[.bool false, .bool false]) w := ta_miss Tryz.underlying4 rfl zero4 h v xT w
attribute [go_sem] hit4 one4 miss4
theorem zero9 (w : World) : (zeroValue 9).run Tryz.prog w = .ok (.string ⟨#[]⟩) w := by kernel_rfl
theorem hit9 (v : Value) (xT : TypeId) (w : World) : (Instr.typeAssert (.iface 9 v) xT 9 true).run Tryz.prog w = .ok (.tuple #[v, .bool true]) w := ta_hit Tryz.underlying9 rfl v xT w
theorem one9 (v : Value) (xT : TypeId) (w : World) : (Instr.typeAssert (.iface 9 v) xT 9 false).run Tryz.prog w = .ok v w := ta_one Tryz.underlying9 rfl v xT w
theorem miss9 (t : TypeId) (v : Value) (xT : TypeId) (w : World) (h : t ≠ 9) : (Instr.typeAssert (.iface t v) xT 9 true).run Tryz.prog w = .ok (.tuple #[.string ⟨#[]⟩, .bool false]) w := ta_miss Tryz.underlying9 rfl zero9 h v xT w
attribute [go_sem] hit9 one9 miss9
theorem zero2 (w : World) : (zeroValue 2).run Tryz.prog w = .ok (.int .i64 0) w := by kernel_rfl
theorem hit2 (v : Value) (xT : TypeId) (w : World) : (Instr.typeAssert (.iface 2 v) xT 2 true).run Tryz.prog w = .ok (.tuple #[v, .bool true]) w := ta_hit Tryz.underlying2 rfl v xT w
theorem one2 (v : Value) (xT : TypeId) (w : World) : (Instr.typeAssert (.iface 2 v) xT 2 false).run Tryz.prog w = .ok v w := ta_one Tryz.underlying2 rfl v xT w
theorem miss2 (t : TypeId) (v : Value) (xT : TypeId) (w : World) (h : t ≠ 2) : (Instr.typeAssert (.iface t v) xT 2 true).run Tryz.prog w = .ok (.tuple #[.int .i64 0, .bool false]) w := ta_miss Tryz.underlying2 rfl zero2 h v xT w
attribute [go_sem] hit2 one2 miss2
theorem zero87 (w : World) : (zeroValue 87).run Tryz.prog w = .ok (.pointer none) w := by kernel_rfl
theorem hit87 (v : Value) (xT : TypeId) (w : World) : (Instr.typeAssert (.iface 87 v) xT 87 true).run Tryz.prog w = .ok (.tuple #[v, .bool true]) w := ta_hit Tryz.underlying87 rfl v xT w
theorem one87 (v : Value) (xT : TypeId) (w : World) : (Instr.typeAssert (.iface 87 v) xT 87 false).run Tryz.prog w = .ok v w := ta_one Tryz.underlying87 rfl v xT w
theorem miss87 (t : TypeId) (v : Value) (xT : TypeId) (w : World) (h : t ≠ 87) : (Instr.typeAssert (.iface t v) xT 87 true).run Tryz.prog w = .ok (.tuple #[.pointer none, .bool false]) w := ta_miss Tryz.underlying87 rfl zero87 h v xT w
attribute [go_sem] hit87 one87 miss87
theorem zero90 (w : World) : (zeroValue 90).run Tryz.prog w = .ok (.pointer none) w := by kernel_rfl
theorem hit90 (v : Value) (xT : TypeId) (w : World) : (Instr.typeAssert (.iface 90 v) xT 90 true).run Tryz.prog w = .ok (.tuple #[v, .bool true]) w := ta_hit Tryz.underlying90 rfl v xT w
theorem one90 (v : Value) (xT : TypeId) (w : World) : (Instr.typeAssert (.iface 90 v) xT 90 false).run Tryz.prog w = .ok v w := ta_one Tryz.underlying90 rfl v xT w
theorem miss90 (t : TypeId) (v : Value) (xT : TypeId) (w : World) (h : t ≠ 90) : (Instr.typeAssert (.iface t v) xT 90 true).run Tryz.prog w = .ok (.tuple #[.pointer none, .bool false]) w := ta_miss Tryz.underlying90 rfl zero90 h v xT w
attribute [go_sem] hit90 one90 miss90
theorem zero93 (w : World) : (zeroValue 93).run Tryz.prog w = .ok (.pointer none) w := by kernel_rfl
theorem hit93 (v : Value) (xT : TypeId) (w : World) : (Instr.typeAssert (.iface 93 v) xT 93 true).run Tryz.prog w = .ok (.tuple #[v, .bool true]) w := ta_hit Tryz.underlying93 rfl v xT w
theorem one93 (v : Value) (xT : TypeId) (w : World) : (Instr.typeAssert (.iface 93 v) xT 93 false).run Tryz.prog w = .ok v w := ta_one Tryz.underlying93 rfl v xT w
theorem miss93 (t : TypeId) (v : Value) (xT : TypeId) (w : World) (h : t ≠ 93) : (Instr.typeAssert (.iface t v) xT 93 true).run Tryz.prog w = .ok (.tuple #[.pointer none, .bool false]) w := ta_miss Tryz.underlying93 rfl zero93 h v xT w
attribute [go_sem] hit93 one93 miss93

/-- The method Kind of each dynamic type. -/
theorem kind111 (v : Value) (w : World) : (method 500 111 v "Kind").run Tryz.prog w = .ok (409, v) w := by kernel_rfl
theorem kind86 (v : Value) (w : World) : (method 500 86 v "Kind").run Tryz.prog w = .ok (386, v) w := by kernel_rfl
theorem kind89 (v : Value) (w : World) : (method 500 89 v "Kind").run Tryz.prog w = .ok (391, v) w := by kernel_rfl
theorem kind125 (a : Addr) (w : World) : (method 500 125 (.pointer (some a)) "Kind").run Tryz.prog w = .ok (413, .pointer (some a)) w := by kernel_rfl
attribute [go_sem] kind111 kind86 kind89 kind125

end Base
end Go.Proofs.YtdpnoaaeplgdjaaGreatDoor
