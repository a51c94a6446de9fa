/-
  What all three walks share: how a type assertion to a named type answers at a known dynamic type.
-/
import Derived.Test.YtdpnoaaeplgdjaaGreatDoorProg
import Derived.WalkKit
import Derived.WalkSpells
import Derived.WalkLawsBesides
import Derived.KernelRfl
import Derived.Deep.RegionHeld3
import Derived.Deep.QuietTactic
import Derived.BigQuiet
import Derived.Laws.Tables
namespace Go.Proofs.YtdpnoaaeplgdjaaGreatDoor
open Go.RowKit

namespace Base

/-- A type that is no interface. -/
def plainType : TypeDesc → Bool
  | .interface _ => false
  | _ => true

theorem ta_hit {P : Program} {T : TypeId} {u : TypeDesc} (hu : P.underlying T = some u) (hp : plainType u = true) (v : Value) (xT : TypeId) (w : World) :
    (Instr.typeAssert (.iface T v) xT T true).run P w = .ok (.tuple #[v, .bool true]) w := by
  cases u <;> simp_all [Instr.typeAssert, run_underlying hu, plainType]

theorem ta_one {P : Program} {T : TypeId} {u : TypeDesc} (hu : P.underlying T = some u) (hp : plainType u = true) (v : Value) (xT : TypeId) (w : World) :
    (Instr.typeAssert (.iface T v) xT T false).run P w = .ok v w := by
  cases u <;> simp_all [Instr.typeAssert, run_underlying hu, plainType]

theorem ta_miss {P : Program} {t T : TypeId} {u : TypeDesc} {z : Value} (hu : P.underlying T = some u) (hp : plainType u = true) (hz : ∀ w, (zeroValue T).run P w = .ok z w) (hne : t ≠ T) (v : Value) (xT : TypeId) (w : World) :
    (Instr.typeAssert (.iface t v) xT T true).run P w = .ok (.tuple #[z, .bool false]) w := by
  cases u <;> simp_all [Instr.typeAssert, run_underlying hu, plainType]

theorem zero85 (w : World) : (zeroValue 85).run Tryz.prog w = .ok (.agg #[]) w := by kernel_rfl
theorem hit85 (v : Value) (xT : TypeId) (w : World) : (Instr.typeAssert (.iface 85 v) xT 85 true).run Tryz.prog w = .ok (.tuple #[v, .bool true]) w := ta_hit Tryz.underlying85 rfl v xT w
theorem one85 (v : Value) (xT : TypeId) (w : World) : (Instr.typeAssert (.iface 85 v) xT 85 false).run Tryz.prog w = .ok v w := ta_one Tryz.underlying85 rfl v xT w
theorem miss85 (t : TypeId) (v : Value) (xT : TypeId) (w : World) (h : t ≠ 85) : (Instr.typeAssert (.iface t v) xT 85 true).run Tryz.prog w = .ok (.tuple #[.agg #[], .bool false]) w := ta_miss Tryz.underlying85 rfl zero85 h v xT w
attribute [go_sem] hit85 one85 miss85
theorem zero111 (w : World) : (zeroValue 111).run Tryz.prog w = .ok (.bool false) w := by kernel_rfl
theorem hit111 (v : Value) (xT : TypeId) (w : World) : (Instr.typeAssert (.iface 111 v) xT 111 true).run Tryz.prog w = .ok (.tuple #[v, .bool true]) w := ta_hit Tryz.underlying111 rfl v xT w
theorem one111 (v : Value) (xT : TypeId) (w : World) : (Instr.typeAssert (.iface 111 v) xT 111 false).run Tryz.prog w = .ok v w := ta_one Tryz.underlying111 rfl v xT w
theorem miss111 (t : TypeId) (v : Value) (xT : TypeId) (w : World) (h : t ≠ 111) : (Instr.typeAssert (.iface t v) xT 111 true).run Tryz.prog w = .ok (.tuple #[.bool false, .bool false]) w := ta_miss Tryz.underlying111 rfl zero111 h v xT w
attribute [go_sem] hit111 one111 miss111
theorem zero86 (w : World) : (zeroValue 86).run Tryz.prog w = .ok (.int .i64 0) w := by kernel_rfl
theorem hit86 (v : Value) (xT : TypeId) (w : World) : (Instr.typeAssert (.iface 86 v) xT 86 true).run Tryz.prog w = .ok (.tuple #[v, .bool true]) w := ta_hit Tryz.underlying86 rfl v xT w
theorem one86 (v : Value) (xT : TypeId) (w : World) : (Instr.typeAssert (.iface 86 v) xT 86 false).run Tryz.prog w = .ok v w := ta_one Tryz.underlying86 rfl v xT w
theorem miss86 (t : TypeId) (v : Value) (xT : TypeId) (w : World) (h : t ≠ 86) : (Instr.typeAssert (.iface t v) xT 86 true).run Tryz.prog w = .ok (.tuple #[.int .i64 0, .bool false]) w := ta_miss Tryz.underlying86 rfl zero86 h v xT w
attribute [go_sem] hit86 one86 miss86
theorem zero89 (w : World) : (zeroValue 89).run Tryz.prog w = .ok (.agg #[.pointer none]) w := by kernel_rfl
theorem hit89 (v : Value) (xT : TypeId) (w : World) : (Instr.typeAssert (.iface 89 v) xT 89 true).run Tryz.prog w = .ok (.tuple #[v, .bool true]) w := ta_hit Tryz.underlying89 rfl v xT w
theorem one89 (v : Value) (xT : TypeId) (w : World) : (Instr.typeAssert (.iface 89 v) xT 89 false).run Tryz.prog w = .ok v w := ta_one Tryz.underlying89 rfl v xT w
theorem miss89 (t : TypeId) (v : Value) (xT : TypeId) (w : World) (h : t ≠ 89) : (Instr.typeAssert (.iface t v) xT 89 true).run Tryz.prog w = .ok (.tuple #[.agg #[.pointer none], .bool false]) w := ta_miss Tryz.underlying89 rfl zero89 h v xT w
attribute [go_sem] hit89 one89 miss89
theorem zero92 (w : World) : (zeroValue 92).run Tryz.prog w = .ok (.agg #[.pointer none]) w := by kernel_rfl
theorem hit92 (v : Value) (xT : TypeId) (w : World) : (Instr.typeAssert (.iface 92 v) xT 92 true).run Tryz.prog w = .ok (.tuple #[v, .bool true]) w := ta_hit Tryz.underlying92 rfl v xT w
theorem one92 (v : Value) (xT : TypeId) (w : World) : (Instr.typeAssert (.iface 92 v) xT 92 false).run Tryz.prog w = .ok v w := ta_one Tryz.underlying92 rfl v xT w
theorem miss92 (t : TypeId) (v : Value) (xT : TypeId) (w : World) (h : t ≠ 92) : (Instr.typeAssert (.iface t v) xT 92 true).run Tryz.prog w = .ok (.tuple #[.agg #[.pointer none], .bool false]) w := ta_miss Tryz.underlying92 rfl zero92 h v xT w
attribute [go_sem] hit92 one92 miss92
theorem zero95 (w : World) : (zeroValue 95).run Tryz.prog w = .ok (.agg #[.pointer none]) w := by kernel_rfl
theorem hit95 (v : Value) (xT : TypeId) (w : World) : (Instr.typeAssert (.iface 95 v) xT 95 true).run Tryz.prog w = .ok (.tuple #[v, .bool true]) w := ta_hit Tryz.underlying95 rfl v xT w
theorem one95 (v : Value) (xT : TypeId) (w : World) : (Instr.typeAssert (.iface 95 v) xT 95 false).run Tryz.prog w = .ok v w := ta_one Tryz.underlying95 rfl v xT w
theorem miss95 (t : TypeId) (v : Value) (xT : TypeId) (w : World) (h : t ≠ 95) : (Instr.typeAssert (.iface t v) xT 95 true).run Tryz.prog w = .ok (.tuple #[.agg #[.pointer none], .bool false]) w := ta_miss Tryz.underlying95 rfl zero95 h v xT w
attribute [go_sem] hit95 one95 miss95
theorem zero97 (w : World) : (zeroValue 97).run Tryz.prog w = .ok (.agg #[.nilIface, .nilIface]) w := by kernel_rfl
theorem hit97 (v : Value) (xT : TypeId) (w : World) : (Instr.typeAssert (.iface 97 v) xT 97 true).run Tryz.prog w = .ok (.tuple #[v, .bool true]) w := ta_hit Tryz.underlying97 rfl v xT w
theorem one97 (v : Value) (xT : TypeId) (w : World) : (Instr.typeAssert (.iface 97 v) xT 97 false).run Tryz.prog w = .ok v w := ta_one Tryz.underlying97 rfl v xT w
theorem miss97 (t : TypeId) (v : Value) (xT : TypeId) (w : World) (h : t ≠ 97) : (Instr.typeAssert (.iface t v) xT 97 true).run Tryz.prog w = .ok (.tuple #[.agg #[.nilIface, .nilIface], .bool false]) w := ta_miss Tryz.underlying97 rfl zero97 h v xT w
attribute [go_sem] hit97 one97 miss97
theorem zero125 (w : World) : (zeroValue 125).run Tryz.prog w = .ok (.pointer none) w := by kernel_rfl
theorem hit125 (v : Value) (xT : TypeId) (w : World) : (Instr.typeAssert (.iface 125 v) xT 125 true).run Tryz.prog w = .ok (.tuple #[v, .bool true]) w := ta_hit Tryz.underlying125 rfl v xT w
theorem one125 (v : Value) (xT : TypeId) (w : World) : (Instr.typeAssert (.iface 125 v) xT 125 false).run Tryz.prog w = .ok v w := ta_one Tryz.underlying125 rfl v xT w
theorem miss125 (t : TypeId) (v : Value) (xT : TypeId) (w : World) (h : t ≠ 125) : (Instr.typeAssert (.iface t v) xT 125 true).run Tryz.prog w = .ok (.tuple #[.pointer none, .bool false]) w := ta_miss Tryz.underlying125 rfl zero125 h v xT w
attribute [go_sem] hit125 one125 miss125
theorem zero4 (w : World) : (zeroValue 4).run Tryz.prog w = .ok (.bool false) w := by kernel_rfl
theorem hit4 (v : Value) (xT : TypeId) (w : World) : (Instr.typeAssert (.iface 4 v) xT 4 true).run Tryz.prog w = .ok (.tuple #[v, .bool true]) w := ta_hit Tryz.underlying4 rfl v xT w
theorem one4 (v : Value) (xT : TypeId) (w : World) : (Instr.typeAssert (.iface 4 v) xT 4 false).run Tryz.prog w = .ok v w := ta_one Tryz.underlying4 rfl v xT w
theorem miss4 (t : TypeId) (v : Value) (xT : TypeId) (w : World) (h : t ≠ 4) : (Instr.typeAssert (.iface t v) xT 4 true).run Tryz.prog w = .ok (.tuple #[.bool false, .bool false]) w := ta_miss Tryz.underlying4 rfl zero4 h v xT w
attribute [go_sem] hit4 one4 miss4
theorem zero9 (w : World) : (zeroValue 9).run Tryz.prog w = .ok (.string ⟨#[]⟩) w := by kernel_rfl
theorem hit9 (v : Value) (xT : TypeId) (w : World) : (Instr.typeAssert (.iface 9 v) xT 9 true).run Tryz.prog w = .ok (.tuple #[v, .bool true]) w := ta_hit Tryz.underlying9 rfl v xT w
theorem one9 (v : Value) (xT : TypeId) (w : World) : (Instr.typeAssert (.iface 9 v) xT 9 false).run Tryz.prog w = .ok v w := ta_one Tryz.underlying9 rfl v xT w
theorem miss9 (t : TypeId) (v : Value) (xT : TypeId) (w : World) (h : t ≠ 9) : (Instr.typeAssert (.iface t v) xT 9 true).run Tryz.prog w = .ok (.tuple #[.string ⟨#[]⟩, .bool false]) w := ta_miss Tryz.underlying9 rfl zero9 h v xT w
attribute [go_sem] hit9 one9 miss9
theorem zero2 (w : World) : (zeroValue 2).run Tryz.prog w = .ok (.int .i64 0) w := by kernel_rfl
theorem hit2 (v : Value) (xT : TypeId) (w : World) : (Instr.typeAssert (.iface 2 v) xT 2 true).run Tryz.prog w = .ok (.tuple #[v, .bool true]) w := ta_hit Tryz.underlying2 rfl v xT w
theorem one2 (v : Value) (xT : TypeId) (w : World) : (Instr.typeAssert (.iface 2 v) xT 2 false).run Tryz.prog w = .ok v w := ta_one Tryz.underlying2 rfl v xT w
theorem miss2 (t : TypeId) (v : Value) (xT : TypeId) (w : World) (h : t ≠ 2) : (Instr.typeAssert (.iface t v) xT 2 true).run Tryz.prog w = .ok (.tuple #[.int .i64 0, .bool false]) w := ta_miss Tryz.underlying2 rfl zero2 h v xT w
attribute [go_sem] hit2 one2 miss2
theorem zero87 (w : World) : (zeroValue 87).run Tryz.prog w = .ok (.pointer none) w := by kernel_rfl
theorem hit87 (v : Value) (xT : TypeId) (w : World) : (Instr.typeAssert (.iface 87 v) xT 87 true).run Tryz.prog w = .ok (.tuple #[v, .bool true]) w := ta_hit Tryz.underlying87 rfl v xT w
theorem one87 (v : Value) (xT : TypeId) (w : World) : (Instr.typeAssert (.iface 87 v) xT 87 false).run Tryz.prog w = .ok v w := ta_one Tryz.underlying87 rfl v xT w
theorem miss87 (t : TypeId) (v : Value) (xT : TypeId) (w : World) (h : t ≠ 87) : (Instr.typeAssert (.iface t v) xT 87 true).run Tryz.prog w = .ok (.tuple #[.pointer none, .bool false]) w := ta_miss Tryz.underlying87 rfl zero87 h v xT w
attribute [go_sem] hit87 one87 miss87
theorem zero90 (w : World) : (zeroValue 90).run Tryz.prog w = .ok (.pointer none) w := by kernel_rfl
theorem hit90 (v : Value) (xT : TypeId) (w : World) : (Instr.typeAssert (.iface 90 v) xT 90 true).run Tryz.prog w = .ok (.tuple #[v, .bool true]) w := ta_hit Tryz.underlying90 rfl v xT w
theorem one90 (v : Value) (xT : TypeId) (w : World) : (Instr.typeAssert (.iface 90 v) xT 90 false).run Tryz.prog w = .ok v w := ta_one Tryz.underlying90 rfl v xT w
theorem miss90 (t : TypeId) (v : Value) (xT : TypeId) (w : World) (h : t ≠ 90) : (Instr.typeAssert (.iface t v) xT 90 true).run Tryz.prog w = .ok (.tuple #[.pointer none, .bool false]) w := ta_miss Tryz.underlying90 rfl zero90 h v xT w
attribute [go_sem] hit90 one90 miss90
theorem zero93 (w : World) : (zeroValue 93).run Tryz.prog w = .ok (.pointer none) w := by kernel_rfl
theorem hit93 (v : Value) (xT : TypeId) (w : World) : (Instr.typeAssert (.iface 93 v) xT 93 true).run Tryz.prog w = .ok (.tuple #[v, .bool true]) w := ta_hit Tryz.underlying93 rfl v xT w
theorem one93 (v : Value) (xT : TypeId) (w : World) : (Instr.typeAssert (.iface 93 v) xT 93 false).run Tryz.prog w = .ok v w := ta_one Tryz.underlying93 rfl v xT w
theorem miss93 (t : TypeId) (v : Value) (xT : TypeId) (w : World) (h : t ≠ 93) : (Instr.typeAssert (.iface t v) xT 93 true).run Tryz.prog w = .ok (.tuple #[.pointer none, .bool false]) w := ta_miss Tryz.underlying93 rfl zero93 h v xT w
attribute [go_sem] hit93 one93 miss93

/-- The method Kind of each dynamic type. -/
theorem kind111 (v : Value) (w : World) : (method 500 111 v "Kind").run Tryz.prog w = .ok (409, v) w := by kernel_rfl
theorem kind86 (v : Value) (w : World) : (method 500 86 v "Kind").run Tryz.prog w = .ok (386, v) w := by kernel_rfl
theorem kind89 (v : Value) (w : World) : (method 500 89 v "Kind").run Tryz.prog w = .ok (391, v) w := by kernel_rfl
theorem kind125 (a : Addr) (w : World) : (method 500 125 (.pointer (some a)) "Kind").run Tryz.prog w = .ok (413, .pointer (some a)) w := by kernel_rfl
attribute [go_sem] kind111 kind86 kind89 kind125

end Base
end Go.Proofs.YtdpnoaaeplgdjaaGreatDoor
/-
  Words for regions that draw their order: blocks that are known whole, and what a call or a store leaves of them.
-/
namespace Go.Proofs.YtdpnoaaeplgdjaaGreatDoor
open Go.RowKit
namespace Rg

/-- Block g holds just these cells of type t, and may be written. -/
def Blk (w : World) (g : Nat) (t : TypeId) (cs : Array Value) : Prop := w.heap[g]? = some (.cells cs t (0, 0))
/-- Block g has n cells of type t, and may be written. -/
def Slot (w : World) (g : Nat) (t : TypeId) (n : Nat) : Prop := ∃ cs, Blk w g t cs ∧ cs.size = n

section
variable {w w' w1 : World} {g c B : Nat} {t : TypeId} {cs : Array Value} {n : Nat}
theorem Blk.lt (h : Blk w g t cs) : g < w.heap.size := by
  rcases Nat.lt_or_ge g w.heap.size with hlt | hge
  · exact hlt
  · unfold Blk at h; rw [Array.getElem?_eq_none hge] at h; cases h
theorem Blk.cell (h : Blk w g t cs) (j : Nat) : w.cell? ⟨g, j, none⟩ = cs[j]? := cell_of_row w g j cs t (0, 0) h
theorem Blk.frozen (h : Blk w g t cs) (j : Nat) : w.frozen? ⟨g, j, none⟩ = false := frozen_of_row w g j cs t h
theorem Blk.cells (h : Blk w g t cs) : ∀ j, w.cell? ⟨g, j, none⟩ = cs[j]? := h.cell
theorem Blk.below (h : Blk w g t cs) (hb : Below B w w') (hg : g < B) : Blk w' g t cs := (hb.block g hg).trans h
theorem Blk.new (w : World) (t : TypeId) (cs : Array Value) : Blk (w.alloc (.cells cs t)) w.heap.size t cs := heap_alloc_new w _
theorem Blk.alloc (h : Blk w g t cs) (o : Obj) : Blk (w.alloc o) g t cs := (Below.heap_alloc w o g h.lt).trans h
theorem Blk.drew (h : Blk w g t cs) : Blk w.drew g t cs := h
theorem Blk.setRow_same (h : Blk w g t cs) (cells : Array Value) : Blk (w.setRow g cells) g t cells := setRow_heap w g _ _ t _ h
theorem Blk.setRow_other (h : Blk w g t cs) (hne : g ≠ c) (cells : Array Value) : Blk (w.setRow c cells) g t cs := (Go.setRow_other w c g cells hne).trans h
theorem Blk.grown (h : Blk w g t cs) {r : Option Nat} (hg : w.grownBy w' r) (hne : some g ≠ r) : Blk w' g t cs := (hg.block g h.lt hne).trans h
theorem Blk.slot (h : Blk w g t cs) : Slot w g t cs.size := ⟨cs, h, rfl⟩
theorem Slot.below (h : Slot w g t n) (hb : Below B w w') (hg : g < B) : Slot w' g t n := let ⟨cs, h, e⟩ := h; ⟨cs, h.below hb hg, e⟩
theorem Slot.below' (h : Slot w g t n) (hb : Below w.heap.size w w') : Slot w' g t n := let ⟨cs, h, e⟩ := h; ⟨cs, h.below hb h.lt, e⟩
theorem Blk.below' (h : Blk w g t cs) (hb : Below w.heap.size w w') : Blk w' g t cs := h.below hb h.lt
theorem Slot.lt (h : Slot w g t n) : g < w.heap.size := let ⟨_, h, _⟩ := h; h.lt
theorem Slot.alloc (h : Slot w g t n) (o : Obj) : Slot (w.alloc o) g t n := let ⟨cs, h, e⟩ := h; ⟨cs, h.alloc o, e⟩

/-- What is below the heap's size of a world stays, one block let out, over a call that only makes memory. -/
theorem only_below {r : Option Nat} (h : w.grownBy w1 r) (k : Below w1.heap.size w1 w') : w.grownBy w' r :=
  ⟨k.os.trans h.os, k.tape.trans h.tape, k.output.trans h.output, Nat.le_trans h.size k.size, fun i hi hne => (k.block i (Nat.lt_of_lt_of_le hi h.size)).trans (h.block i hi hne)⟩
theorem only_drew {r : Option Nat} (h : w.grownBy w1 r) : w.grownBy w1.drew r := ⟨h.os, h.tape, h.output, h.size, h.block⟩
theorem only_alloc {r : Option Nat} (h : w.grownBy w1 r) (o : Obj) : w.grownBy (w1.alloc o) r := only_below h ((Below.refl _ _).alloc (Nat.le_refl _) o)
theorem only_setRow {g : Nat} (h : w.grownBy w1 (some g)) (cells : Array Value) : w.grownBy (w1.setRow g cells) (some g) :=
  ⟨h.os, h.tape, h.output, by simpa using h.size, fun i hi hne => (Go.setRow_other w1 g i cells (fun e => hne (by rw [e]))).trans (h.block i hi hne)⟩
theorem only_setRow_new {r : Option Nat} {g : Nat} (h : w.grownBy w1 r) (hg : w.heap.size ≤ g) (cells : Array Value) : w.grownBy (w1.setRow g cells) r :=
  ⟨h.os, h.tape, h.output, by simpa using h.size, fun i hi hne => (Go.setRow_other w1 g i cells (by omega)).trans (h.block i hi hne)⟩
/-- Seen from an older world the block that was let out is new. -/
theorem below_only {r : Nat} {W : World} (hb : Below W.heap.size W w) (h : w.grownBy w1 (some r)) (hr : W.heap.size ≤ r) : Below W.heap.size W w1 :=
  hb.grown h hb.size (fun k hk => by injection hk with hk; omega)
theorem below_only_none {W : World} (hb : Below W.heap.size W w) (h : w.grownBy w1 none) : Below W.heap.size W w1 :=
  hb.grown h hb.size (fun k hk => by cases hk)
theorem below_row {W : World} (h : Below B W w) (hg : B ≤ g) (cells : Array Value) : Below B W (w.setRow g cells) :=
  h.trans ⟨rfl, rfl, rfl, by simp, fun k hk => Go.setRow_other w g k cells (by omega)⟩
theorem below_step {W : World} (h : Below W.heap.size W w) (k : Below w.heap.size w w') : Below W.heap.size W w' := h.trans (k.mono h.size)
end

/-- A store of a whole struct into a block that is known, as one step of a region that draws its order. -/
theorem step_store_row {P : Program} {ops : Array Oper} {o : Oper} {a : Act} {w : World} {K : Act → World → Prop} {Q : Exit → Act → World → Prop} {E : Prop} (hgd : o.guard = none)
    (ty : TypeId) (x y : Operand) (ho : o.op = .store ty x y) (g : Nat) (cells : Array Value) (hx : a.eval x = .pointer (some ⟨g, 0, none⟩)) (hy : a.eval y = .agg cells)
    (t : TypeId) (n : Nat) (hg : Slot w g t n) (hi : (P.info? ty).map (·.size) = some n) (hn : cells.size = n) (h1 : cells.all (·.oneCell') = true)
    (h : Blk (w.setRow g cells) g t cells → K (a.put o.dst undef) (w.setRow g cells)) : if Region.wanted o (yielded ops a.tmps) = true then Oper.wp P o a w K Q else E := by
  have hw : Region.wanted o (yielded ops a.tmps) = true := by simp [Region.wanted, hgd]
  rw [if_pos hw]
  obtain ⟨old, hold, hs⟩ := hg
  exact wp_store_row ty x y ho g cells hx hy t old hold (by rw [hn]; exact hi) (by omega) h1 (h (hold.setRow_same cells))

/-- From w1 on only block c of type t, which has n cells, and what is new may have turned. -/
structure Only (w1 : World) (c : Nat) (t : TypeId) (n : Nat) (w' : World) : Prop where
  grown : w1.grownBy w' (some c)
  slot : Slot w' c t n

section
variable {w1 X w' : World} {c n : Nat} {t : TypeId}
theorem Only.start (h : Slot w1 c t n) : Only w1 c t n w1.drew := ⟨only_drew (World.grownBy.refl _ _), h⟩
theorem Only.below (h : Only w1 c t n X) (k : Below X.heap.size X w') : Only w1 c t n w' := ⟨only_below h.grown k, h.slot.below k h.slot.lt⟩
theorem Only.alloc (h : Only w1 c t n X) (o : Obj) : Only w1 c t n (X.alloc o) := h.below ((Below.refl _ _).alloc (Nat.le_refl _) o)
theorem Only.setRow (h : Only w1 c t n X) {cells : Array Value} (hs : cells.size = n) : Only w1 c t n (X.setRow c cells) :=
  ⟨only_setRow h.grown cells, let ⟨_, hb, _⟩ := h.slot; ⟨cells, hb.setRow_same cells, hs⟩⟩
theorem Only.blk {g : Nat} {t' : TypeId} {cs : Array Value} (h : Only w1 c t n w') (hA : Blk w1 g t' cs) (hne : g ≠ c) : Blk w' g t' cs :=
  hA.grown h.grown (fun e => hne (by injection e))
theorem Only.cells {g : Nat} {t' : TypeId} {cs : Array Value} (h : Only w1 c t n w') (hA : Blk w1 g t' cs) (hne : g ≠ c) : ∀ j, w'.cell? ⟨g, j, none⟩ = cs[j]? :=
  (h.blk hA hne).cells
end

/-! A store of a whole struct, as one rule of the walk: the block is known by its size alone. -/
/-- The block that a pointer points at. -/
def blockOf : Value → Nat
  | .pointer (some a) => a.block
  | _ => 0
/-- A pointer to the head of a block of n cells of type t. -/
def SlotV (w : World) (v : Value) (t : TypeId) (n : Nat) : Prop := ∃ g, v = .pointer (some ⟨g, 0, none⟩) ∧ Slot w g t n
/-- A struct of n cells of one cell each. -/
def AggV (v : Value) (n : Nat) : Prop := ∃ cs, v = .agg cs ∧ cs.size = n ∧ cs.all (·.oneCell') = true
theorem blockOf_pointer (g o : Nat) (s : Option Nat) : blockOf (.pointer (some ⟨g, o, s⟩)) = g := rfl
theorem SlotV_pointer (w : World) (g : Nat) (t : TypeId) (n : Nat) : SlotV w (.pointer (some ⟨g, 0, none⟩)) t n = Slot w g t n := by
  refine propext ⟨fun ⟨g', e, h⟩ => ?_, fun h => ⟨g, rfl, h⟩⟩
  injection e with e; injection e with e; injection e with e; subst e; exact h
theorem AggV_agg (cs : Array Value) (n : Nat) : AggV (.agg cs) n = (cs.size = n ∧ cs.all (·.oneCell') = true) :=
  propext ⟨fun ⟨_, e, h⟩ => by injection e with e; subst e; exact h, fun h => ⟨cs, rfl, h⟩⟩
theorem cells_agg (cs : Array Value) : (Value.agg cs).cells = cs := rfl

theorem exec_store {P : Program} {f : Operand → Value} {d : Option Tmp} {ty : TypeId} {x y : Operand} {t' : TypeId} {pos : String} {af : Array Edge} {g : Option (Nat × Bool)} {w : World} {n : Nat}
    (hi : (P.info? ty).map (·.size) = some n) (hx : SlotV w (f x) ty n) (hy : AggV (f y) n) :
    (execOp f ⟨d, .store ty x y, t', pos, af, g⟩).run P w = .ok .skip (w.setRow (blockOf (f x)) (f y).cells) := by
  obtain ⟨b, hb, cur, hc, hs⟩ := hx
  obtain ⟨cs, hy, hn, h1⟩ := hy
  have := run_storeVar_row (P := P) w b ty ty cur cs hc (by rw [hn]; exact hi) (by omega) h1
  simp only [execOp, hb, hy, Instr.storeAt, Instr.sureAddr, Sem.run_bind, Sem.run_pure, Result.andThen_ok, this, blockOf, Value.cells]

theorem Slot.row {w : World} {g n : Nat} {t : TypeId} {cells : Array Value} (h : Slot (w.setRow g cells) g t n) : Blk (w.setRow g cells) g t cells := by
  obtain ⟨cs, h, _⟩ := h
  unfold Blk at *
  have hlt : g < w.heap.size := by
    rcases Nat.lt_or_ge g w.heap.size with h1 | h1
    · exact h1
    · rw [Array.getElem?_eq_none (by simpa using h1)] at h; cases h
  simp only [World.setRow, Array.getElem?_modify, Array.getElem?_eq_getElem hlt, if_true, Option.map_some] at h ⊢
  cases hq : w.heap[g] with
  | cells c e f => simp only [hq] at h ⊢; injection h with h; injection h with _ h1 h2; subst h1; subst h2; rfl
  | _ => simp [hq] at h

/-! A region that draws its order, by an invariant: each operation once, whatever the order. -/
section
variable {P : Program} {ops : Array Oper} {Q : Exit → Act → World → Prop} {md : Region.Mode} {I : Array Bool → Act → World → Prop}
/-- How many operations have not come up yet. -/
def left (listed : Array Bool) : Nat := (listed.toList.filter (!·)).length
theorem left_set {listed : Array Bool} {i : Nat} (h : listed.getD i true = false) : left listed = left (listed.setIfInBounds i true) + 1 := by
  unfold left
  rw [Array.toList_setIfInBounds]
  obtain ⟨l⟩ := listed
  simp only at h ⊢
  induction l generalizing i with
  | nil => simp at h
  | cons b l ih =>
    cases i with
    | zero => simp at h; subst h; simp
    | succ i =>
      have := ih (i := i) (by simpa using h)
      cases b <;> simp at this ⊢ <;> omega
theorem left_zero {listed : Array Bool} (h : left listed = 0) : Region.ready md ops listed = [] := by
  unfold Region.ready
  rw [List.filter_eq_nil_iff]
  intro i _ hc
  have h1 : listed.getD i true = false := by
    simp only [Bool.and_eq_true, Bool.not_eq_true'] at hc
    exact hc.1
  have := left_set h1
  omega
theorem wpAny_inv (hstep : ∀ listed a w i, I listed a w → i ∈ Region.ready md ops listed → wpOp P ops Q i (fun a' w' => I (listed.setIfInBounds i true) a' w') a w)
    (hend : ∀ listed a w, I listed a w → Region.ready md ops listed = [] → Q .normal a w) :
    ∀ (fuel : Nat) (listed : Array Bool) (a : Act) (w : World), left listed ≤ fuel → I listed a w → wpAny P md ops Q fuel listed a w
  | 0, listed, a, w, hl, hI => ⟨left_zero (by omega), hend _ _ _ hI (left_zero (by omega))⟩
  | fuel + 1, listed, a, w, hl, hI => ⟨hend _ _ _ hI, fun i hi => wpOp_mono (fun a' w' h' => wpAny_inv hstep hend fuel _ a' w' (by
      have := left_set (mem_ready.1 hi).1
      omega) h') (hstep _ _ _ _ hI hi)⟩
theorem wp_region_inv {id : Nat} {a : Act} {w : World} (hm : P.follows .mixedOrders = true) (h0 : I (Array.replicate ops.size false) a w.drew)
    (hstep : ∀ listed a w i, I listed a w → i ∈ Region.ready .any ops listed → wpOp P ops Q i (fun a' w' => I (listed.setIfInBounds i true) a' w') a w)
    (hend : ∀ listed a w, I listed a w → Region.ready .any ops listed = [] → Q .normal a w) : (Code.region id ops true).wp P Q a w :=
  wp_region_any hm (wpAny_inv hstep hend _ _ _ _ (by simp [left]) h0)
end

/-- Where every operation waits for earlier ones alone, all have come up once none may. -/
def backward (md : Region.Mode) (ops : Array Oper) : Bool := ops.toList.zipIdx.all fun x => x.1.after.all fun e => !Region.binds md e || decide (e.on < x.2)
theorem all_listed {md : Region.Mode} {ops : Array Oper} {listed : Array Bool} (hb : backward md ops = true) (hs : listed.size = ops.size) (hr : Region.ready md ops listed = []) :
    ∀ i, i < ops.size → listed.getD i false = true := by
  intro i
  induction i using Nat.strongRecOn with
  | _ i ih =>
    intro hi
    rcases hq : listed.getD i false with _ | _
    · exfalso
      have h1 : listed.getD i true = false := by
        have hlt : i < listed.size := by omega
        simpa [Array.getD, hlt] using hq
      have : i ∈ Region.ready md ops listed := mem_ready.2 ⟨h1, ops[i], Array.getElem?_eq_getElem hi, fun e he hbd => by
        have h2 := List.all_eq_true.1 hb (ops[i], i) (by
          rw [List.mem_zipIdx_iff_getElem?]
          simp [hi])
        have h3 := Array.all_eq_true_iff_forall_mem.1 h2 e he
        simp only [hbd, Bool.not_true, Bool.false_or, decide_eq_true_eq] at h3
        exact ih e.on h3 (by omega)⟩
      rw [hr] at this
      cases this
    · rfl
theorem getD_set_other {listed : Array Bool} {i j : Nat} (h : j ≠ i) : (listed.setIfInBounds i true).getD j false = listed.getD j false := by
  simp [Array.getD_eq_getD_getElem?, Array.getElem?_setIfInBounds_ne (Ne.symm h)]

theorem size41 : (Tryz.prog.info? 41).map (·.size) = some 9 := by kernel_rfl
theorem size30 : (Tryz.prog.info? 30).map (·.size) = some 3 := by kernel_rfl

theorem exec_store41 {f : Operand → Value} {d : Option Tmp} {x y : Operand} {t' : TypeId} {pos : String} {af : Array Edge} {g : Option (Nat × Bool)} {w : World} (hx : SlotV w (f x) 41 9) (hy : AggV (f y) 9) :
    (execOp f ⟨d, .store 41 x y, t', pos, af, g⟩).run Tryz.prog w = .ok .skip (w.setRow (blockOf (f x)) (f y).cells) := exec_store size41 hx hy
theorem exec_store30 {f : Operand → Value} {d : Option Tmp} {x y : Operand} {t' : TypeId} {pos : String} {af : Array Edge} {g : Option (Nat × Bool)} {w : World} (hx : SlotV w (f x) 30 3) (hy : AggV (f y) 3) :
    (execOp f ⟨d, .store 30 x y, t', pos, af, g⟩).run Tryz.prog w = .ok .skip (w.setRow (blockOf (f x)) (f y).cells) := exec_store size30 hx hy
attribute [go_sem ↓] exec_store41 exec_store30
attribute [go_sem] blockOf_pointer SlotV_pointer AggV_agg cells_agg Value.oneCell'

end Rg
end Go.Proofs.YtdpnoaaeplgdjaaGreatDoor
