/-
  THE WALK OF FnTruths, last part: the law itself. Its second statement draws its order among three new variables and three calls: by an invariant.
-/
import Derived.Test.YtdpnoaaeplgdjaaGreatDoorTr3
namespace Go.Proofs.YtdpnoaaeplgdjaaGreatDoor
open Go.RowKit
namespace Tr
open Rg

/-- A new variable of the call's own: a pointer to a block that holds just these cells. -/
def Made (W w : World) (v : Value) (cs : Array Value) : Prop := ∃ g, v = .pointer (some ⟨g, 0, none⟩) ∧ W.heap.size ≤ g ∧ Blk w g 41 cs
theorem Made.below {W w w' : World} {v : Value} {cs : Array Value} (h : Made W w v cs) (k : Below w.heap.size w w') : Made W w' v cs := let ⟨g, e, hg, hb⟩ := h; ⟨g, e, hg, hb.below' k⟩
theorem Made.alloc {W w : World} {v : Value} {cs : Array Value} (h : Made W w v cs) (o : Obj) : Made W (w.alloc o) v cs := h.below ((Below.refl _ _).alloc (Nat.le_refl _) o)
theorem Made.new {W w : World} (hb : Below W.heap.size W w) (cs : Array Value) : Made W (w.alloc (.cells cs 41)) (.pointer (some ⟨w.heap.size, 0, none⟩)) cs := ⟨_, rfl, hb.size, Blk.new w 41 cs⟩
theorem Made.lt {W w : World} {v : Value} {cs : Array Value} (h : Made W w v cs) : v ≠ .pointer (some ⟨w.heap.size, 0, none⟩) := by
  rintro rfl
  obtain ⟨g, e, _, hb⟩ := h
  injection e with e; injection e with e; injection e with e
  have := hb.lt
  omega
theorem Made.other {W w : World} {v : Value} {g : Nat} {cs : Array Value} (h : Made W w v cs) (hne : v ≠ .pointer (some ⟨g, 0, none⟩)) (cells : Array Value) : Made W (w.setRow g cells) v cs := by
  obtain ⟨g', rfl, hg, hb⟩ := h
  exact ⟨g', rfl, hg, hb.setRow_other (fun e => hne (by rw [e])) cells⟩

/-- What holds while the second statement of the law runs: of each operation that has come up, what it has left. -/
structure J (W : World) (a b : Bool) (L : Array Bool) (w : World) (v7 v8 v9 v14 v15 v16 v17 v18 v19 v20 v21 : Value) : Prop where
  size : L.size = 14
  below : Below W.heap.size W w
  f0 : L.getD 0 false = true → v14 = .agg (vb a)
  f1 : L.getD 1 false = true → v15 = .agg (vb b)
  f2 : L.getD 2 false = true → v16 = .agg (vb (a && b))
  f3 : L.getD 3 false = true → v17 = .agg (vb a)
  f4 : L.getD 4 false = true → v18 = .agg (vb b)
  f5 : L.getD 5 false = true → v19 = .agg (vb (a || b))
  f6 : L.getD 6 false = true → v20 = .agg (vb a)
  f7 : L.getD 7 false = true → v21 = .agg (vb (!a))
  f8 : L.getD 8 false = true → Made W w v7 (if L.getD 11 false then vb (a && b) else v0)
  f9 : L.getD 9 false = true → Made W w v8 (if L.getD 12 false then vb (a || b) else v0)
  f10 : L.getD 10 false = true → Made W w v9 (if L.getD 13 false then vb (!a) else v0)
  d1 : L.getD 8 false = true → L.getD 9 false = true → v7 ≠ v8
  d2 : L.getD 8 false = true → L.getD 10 false = true → v7 ≠ v9
  d3 : L.getD 9 false = true → L.getD 10 false = true → v8 ≠ v9
  c1 : L.getD 11 false = true → L.getD 8 false = true
  c2 : L.getD 12 false = true → L.getD 9 false = true
  c3 : L.getD 13 false = true → L.getD 10 false = true

/-- The frame at that statement. -/
abbrev T (a b : Bool) (px py : Nat) (v7 v8 v9 v14 v15 v16 v17 v18 v19 v20 v21 : Value) : Array Value := #[.bool a, .bool b, undef, undef, .bool false, .pointer (some ⟨px, 0, none⟩), .pointer (some ⟨py, 0, none⟩), v7, v8, v9, .bool a, .agg (vb a), .bool b, .agg (vb b), v14, v15, v16, v17, v18, v19, v20, v21, undef, undef, undef, undef, undef, undef, undef, undef, undef, undef, undef, undef, undef, undef, undef, undef, undef, undef, undef, undef, undef, undef, undef, undef, undef, undef, undef, undef, undef, undef, undef, undef, undef, undef, undef, undef, undef, undef, undef, undef, undef, undef, undef, undef, undef, undef, undef, undef, undef, undef, undef, undef, undef, undef, undef, undef]

def I (W : World) (a b : Bool) (px py : Nat) (L : Array Bool) (act : Act) (w : World) : Prop := ∃ v7 v8 v9 v14 v15 v16 v17 v18 v19 v20 v21 : Value, act = ⟨T a b px py v7 v8 v9 v14 v15 v16 v17 v18 v19 v20 v21, []⟩ ∧ J W a b L w v7 v8 v9 v14 v15 v16 v17 v18 v19 v20 v21

theorem getD_self {L : Array Bool} {i : Nat} (h : i < L.size) : (L.setIfInBounds i true).getD i false = true := by simp [Array.getD, h]

theorem un {L : Array Bool} {i : Nat} (h : L.getD i true = false) : L.getD i false = false := by
  by_cases hi : i < L.size
  · simpa [Array.getD, hi] using h
  · simp [Array.getD, hi]
theorem nl {L : Array Bool} {i j : Nat} (h : L.getD i true = false) (hc : L.getD j false = true → L.getD i false = true) : L.getD j false = false := by
  rcases hq : L.getD j false with _ | _
  · rfl
  · have := hc hq
    rw [un h] at this
    cases this

set_option maxRecDepth 100000 in
set_option maxHeartbeats 4000000 in
theorem truths_any (a b : Bool) (w : World) : Calls Tryz.prog 4 #[.bool a, .bool b] w fun e w' => e = .returned (.bool true) ∧ Below w.heap.size w w' := by
  go_enter Tryz.func4, Tryz.ntmps4
  go_wp2_with fail
  have hx : Blk ((w.alloc (.cells (vb a) 41)).alloc (.cells (vb b) 41)) w.heap.size 41 (vb a) := (Blk.new w 41 (vb a)).alloc _
  have hy : Blk ((w.alloc (.cells (vb a) 41)).alloc (.cells (vb b) 41)) (w.heap.size + 1) 41 (vb b) := by
    have := Blk.new (w.alloc (.cells (vb a) 41)) 41 (vb b)
    simpa using this
  have hb0 : Below w.heap.size w ((w.alloc (.cells (vb a) 41)).alloc (.cells (vb b) 41)) := ((Below.refl _ _).alloc (Nat.le_refl _) _).alloc (by simp) _
  generalize ((w.alloc (.cells (vb a) 41)).alloc (.cells (vb b) 41)) = W at hx hy hb0 ⊢
  generalize hpx : w.heap.size = px at hx hy hb0 ⊢
  refine wp_region_inv (I := I W a b px (px + 1)) (by kernel_rfl) ?_ ?_ ?_
  · exact ⟨undef, undef, undef, undef, undef, undef, undef, undef, undef, undef, undef, rfl, rfl, (Below.refl _ _).drew, fun h => absurd h (by simp), fun h => absurd h (by simp), fun h => absurd h (by simp), fun h => absurd h (by simp), fun h => absurd h (by simp), fun h => absurd h (by simp), fun h => absurd h (by simp), fun h => absurd h (by simp), fun h => absurd h (by simp), fun h => absurd h (by simp), fun h => absurd h (by simp), fun h => absurd h (by simp), fun h => absurd h (by simp), fun h => absurd h (by simp), fun h => absurd h (by simp), fun h => absurd h (by simp), fun h => absurd h (by simp)⟩
  · rintro L act w1 i ⟨v7, v8, v9, v14, v15, v16, v17, v18, v19, v20, v21, rfl, hj⟩ hi
    obtain ⟨hun, o, ho, hdep⟩ := mem_ready.1 hi
    have hlt : i < 14 := by simpa using (Array.getElem?_eq_some_iff.1 ho).1
    have hx1 := hx.below' hj.below
    have hy1 := hy.below' hj.below
    rcases (by omega : i = 0 ∨ i = 1 ∨ i = 2 ∨ i = 3 ∨ i = 4 ∨ i = 5 ∨ i = 6 ∨ i = 7 ∨ i = 8 ∨ i = 9 ∨ i = 10 ∨ i = 11 ∨ i = 12 ∨ i = 13) with rfl | rfl | rfl | rfl | rfl | rfl | rfl | rfl | rfl | rfl | rfl | rfl | rfl | rfl
    · have hc := hx1.cells
      refine wpOp_step rfl (fun K hK => ?_)
      go_simp
      refine hK _ _ ⟨_, _, _, _, _, _, _, _, _, _, _, rfl, ?_⟩
      exact ⟨by simpa using hj.size, hj.below, fun _ => rfl, by rw [getD_set_other (show (1 : Nat) ≠ 0 by decide)]; exact hj.f1, by rw [getD_set_other (show (2 : Nat) ≠ 0 by decide)]; exact hj.f2, by rw [getD_set_other (show (3 : Nat) ≠ 0 by decide)]; exact hj.f3, by rw [getD_set_other (show (4 : Nat) ≠ 0 by decide)]; exact hj.f4, by rw [getD_set_other (show (5 : Nat) ≠ 0 by decide)]; exact hj.f5, by rw [getD_set_other (show (6 : Nat) ≠ 0 by decide)]; exact hj.f6, by rw [getD_set_other (show (7 : Nat) ≠ 0 by decide)]; exact hj.f7, by rw [getD_set_other (show (8 : Nat) ≠ 0 by decide), getD_set_other (show (11 : Nat) ≠ 0 by decide)]; exact hj.f8, by rw [getD_set_other (show (9 : Nat) ≠ 0 by decide), getD_set_other (show (12 : Nat) ≠ 0 by decide)]; exact hj.f9, by rw [getD_set_other (show (10 : Nat) ≠ 0 by decide), getD_set_other (show (13 : Nat) ≠ 0 by decide)]; exact hj.f10, by rw [getD_set_other (show (8 : Nat) ≠ 0 by decide), getD_set_other (show (9 : Nat) ≠ 0 by decide)]; exact hj.d1, by rw [getD_set_other (show (8 : Nat) ≠ 0 by decide), getD_set_other (show (10 : Nat) ≠ 0 by decide)]; exact hj.d2, by rw [getD_set_other (show (9 : Nat) ≠ 0 by decide), getD_set_other (show (10 : Nat) ≠ 0 by decide)]; exact hj.d3, by rw [getD_set_other (show (11 : Nat) ≠ 0 by decide), getD_set_other (show (8 : Nat) ≠ 0 by decide)]; exact hj.c1, by rw [getD_set_other (show (12 : Nat) ≠ 0 by decide), getD_set_other (show (9 : Nat) ≠ 0 by decide)]; exact hj.c2, by rw [getD_set_other (show (13 : Nat) ≠ 0 by decide), getD_set_other (show (10 : Nat) ≠ 0 by decide)]; exact hj.c3⟩
    · have hc := hy1.cells
      refine wpOp_step rfl (fun K hK => ?_)
      go_simp
      refine hK _ _ ⟨_, _, _, _, _, _, _, _, _, _, _, rfl, ?_⟩
      exact ⟨by simpa using hj.size, hj.below, by rw [getD_set_other (show (0 : Nat) ≠ 1 by decide)]; exact hj.f0, fun _ => rfl, by rw [getD_set_other (show (2 : Nat) ≠ 1 by decide)]; exact hj.f2, by rw [getD_set_other (show (3 : Nat) ≠ 1 by decide)]; exact hj.f3, by rw [getD_set_other (show (4 : Nat) ≠ 1 by decide)]; exact hj.f4, by rw [getD_set_other (show (5 : Nat) ≠ 1 by decide)]; exact hj.f5, by rw [getD_set_other (show (6 : Nat) ≠ 1 by decide)]; exact hj.f6, by rw [getD_set_other (show (7 : Nat) ≠ 1 by decide)]; exact hj.f7, by rw [getD_set_other (show (8 : Nat) ≠ 1 by decide), getD_set_other (show (11 : Nat) ≠ 1 by decide)]; exact hj.f8, by rw [getD_set_other (show (9 : Nat) ≠ 1 by decide), getD_set_other (show (12 : Nat) ≠ 1 by decide)]; exact hj.f9, by rw [getD_set_other (show (10 : Nat) ≠ 1 by decide), getD_set_other (show (13 : Nat) ≠ 1 by decide)]; exact hj.f10, by rw [getD_set_other (show (8 : Nat) ≠ 1 by decide), getD_set_other (show (9 : Nat) ≠ 1 by decide)]; exact hj.d1, by rw [getD_set_other (show (8 : Nat) ≠ 1 by decide), getD_set_other (show (10 : Nat) ≠ 1 by decide)]; exact hj.d2, by rw [getD_set_other (show (9 : Nat) ≠ 1 by decide), getD_set_other (show (10 : Nat) ≠ 1 by decide)]; exact hj.d3, by rw [getD_set_other (show (11 : Nat) ≠ 1 by decide), getD_set_other (show (8 : Nat) ≠ 1 by decide)]; exact hj.c1, by rw [getD_set_other (show (12 : Nat) ≠ 1 by decide), getD_set_other (show (9 : Nat) ≠ 1 by decide)]; exact hj.c2, by rw [getD_set_other (show (13 : Nat) ≠ 1 by decide), getD_set_other (show (10 : Nat) ≠ 1 by decide)]; exact hj.c3⟩
    · simp only [List.getElem?_toArray, List.getElem?_cons_succ, List.getElem?_cons_zero, Option.some.injEq] at ho
      subst ho
      obtain rfl := hj.f0 (hdep ⟨0, .data⟩ (by simp) rfl)
      obtain rfl := hj.f1 (hdep ⟨1, .data⟩ (by simp) rfl)
      refine wpOp_step rfl (fun K hK => ?_)
      go_simp
      refine (binary_and a b _).mono ?_
      rintro e w2 ⟨rfl, hk⟩
      refine hK _ _ ⟨_, _, _, _, _, _, _, _, _, _, _, rfl, ?_⟩
      exact ⟨by simpa using hj.size, below_step hj.below hk, by rw [getD_set_other (show (0 : Nat) ≠ 2 by decide)]; exact hj.f0, by rw [getD_set_other (show (1 : Nat) ≠ 2 by decide)]; exact hj.f1, fun _ => rfl, by rw [getD_set_other (show (3 : Nat) ≠ 2 by decide)]; exact hj.f3, by rw [getD_set_other (show (4 : Nat) ≠ 2 by decide)]; exact hj.f4, by rw [getD_set_other (show (5 : Nat) ≠ 2 by decide)]; exact hj.f5, by rw [getD_set_other (show (6 : Nat) ≠ 2 by decide)]; exact hj.f6, by rw [getD_set_other (show (7 : Nat) ≠ 2 by decide)]; exact hj.f7, by rw [getD_set_other (show (8 : Nat) ≠ 2 by decide), getD_set_other (show (11 : Nat) ≠ 2 by decide)]; exact fun h => (hj.f8 h).below hk, by rw [getD_set_other (show (9 : Nat) ≠ 2 by decide), getD_set_other (show (12 : Nat) ≠ 2 by decide)]; exact fun h => (hj.f9 h).below hk, by rw [getD_set_other (show (10 : Nat) ≠ 2 by decide), getD_set_other (show (13 : Nat) ≠ 2 by decide)]; exact fun h => (hj.f10 h).below hk, by rw [getD_set_other (show (8 : Nat) ≠ 2 by decide), getD_set_other (show (9 : Nat) ≠ 2 by decide)]; exact hj.d1, by rw [getD_set_other (show (8 : Nat) ≠ 2 by decide), getD_set_other (show (10 : Nat) ≠ 2 by decide)]; exact hj.d2, by rw [getD_set_other (show (9 : Nat) ≠ 2 by decide), getD_set_other (show (10 : Nat) ≠ 2 by decide)]; exact hj.d3, by rw [getD_set_other (show (11 : Nat) ≠ 2 by decide), getD_set_other (show (8 : Nat) ≠ 2 by decide)]; exact hj.c1, by rw [getD_set_other (show (12 : Nat) ≠ 2 by decide), getD_set_other (show (9 : Nat) ≠ 2 by decide)]; exact hj.c2, by rw [getD_set_other (show (13 : Nat) ≠ 2 by decide), getD_set_other (show (10 : Nat) ≠ 2 by decide)]; exact hj.c3⟩
    · have hc := hx1.cells
      refine wpOp_step rfl (fun K hK => ?_)
      go_simp
      refine hK _ _ ⟨_, _, _, _, _, _, _, _, _, _, _, rfl, ?_⟩
      exact ⟨by simpa using hj.size, hj.below, by rw [getD_set_other (show (0 : Nat) ≠ 3 by decide)]; exact hj.f0, by rw [getD_set_other (show (1 : Nat) ≠ 3 by decide)]; exact hj.f1, by rw [getD_set_other (show (2 : Nat) ≠ 3 by decide)]; exact hj.f2, fun _ => rfl, by rw [getD_set_other (show (4 : Nat) ≠ 3 by decide)]; exact hj.f4, by rw [getD_set_other (show (5 : Nat) ≠ 3 by decide)]; exact hj.f5, by rw [getD_set_other (show (6 : Nat) ≠ 3 by decide)]; exact hj.f6, by rw [getD_set_other (show (7 : Nat) ≠ 3 by decide)]; exact hj.f7, by rw [getD_set_other (show (8 : Nat) ≠ 3 by decide), getD_set_other (show (11 : Nat) ≠ 3 by decide)]; exact hj.f8, by rw [getD_set_other (show (9 : Nat) ≠ 3 by decide), getD_set_other (show (12 : Nat) ≠ 3 by decide)]; exact hj.f9, by rw [getD_set_other (show (10 : Nat) ≠ 3 by decide), getD_set_other (show (13 : Nat) ≠ 3 by decide)]; exact hj.f10, by rw [getD_set_other (show (8 : Nat) ≠ 3 by decide), getD_set_other (show (9 : Nat) ≠ 3 by decide)]; exact hj.d1, by rw [getD_set_other (show (8 : Nat) ≠ 3 by decide), getD_set_other (show (10 : Nat) ≠ 3 by decide)]; exact hj.d2, by rw [getD_set_other (show (9 : Nat) ≠ 3 by decide), getD_set_other (show (10 : Nat) ≠ 3 by decide)]; exact hj.d3, by rw [getD_set_other (show (11 : Nat) ≠ 3 by decide), getD_set_other (show (8 : Nat) ≠ 3 by decide)]; exact hj.c1, by rw [getD_set_other (show (12 : Nat) ≠ 3 by decide), getD_set_other (show (9 : Nat) ≠ 3 by decide)]; exact hj.c2, by rw [getD_set_other (show (13 : Nat) ≠ 3 by decide), getD_set_other (show (10 : Nat) ≠ 3 by decide)]; exact hj.c3⟩
    · have hc := hy1.cells
      refine wpOp_step rfl (fun K hK => ?_)
      go_simp
      refine hK _ _ ⟨_, _, _, _, _, _, _, _, _, _, _, rfl, ?_⟩
      exact ⟨by simpa using hj.size, hj.below, by rw [getD_set_other (show (0 : Nat) ≠ 4 by decide)]; exact hj.f0, by rw [getD_set_other (show (1 : Nat) ≠ 4 by decide)]; exact hj.f1, by rw [getD_set_other (show (2 : Nat) ≠ 4 by decide)]; exact hj.f2, by rw [getD_set_other (show (3 : Nat) ≠ 4 by decide)]; exact hj.f3, fun _ => rfl, by rw [getD_set_other (show (5 : Nat) ≠ 4 by decide)]; exact hj.f5, by rw [getD_set_other (show (6 : Nat) ≠ 4 by decide)]; exact hj.f6, by rw [getD_set_other (show (7 : Nat) ≠ 4 by decide)]; exact hj.f7, by rw [getD_set_other (show (8 : Nat) ≠ 4 by decide), getD_set_other (show (11 : Nat) ≠ 4 by decide)]; exact hj.f8, by rw [getD_set_other (show (9 : Nat) ≠ 4 by decide), getD_set_other (show (12 : Nat) ≠ 4 by decide)]; exact hj.f9, by rw [getD_set_other (show (10 : Nat) ≠ 4 by decide), getD_set_other (show (13 : Nat) ≠ 4 by decide)]; exact hj.f10, by rw [getD_set_other (show (8 : Nat) ≠ 4 by decide), getD_set_other (show (9 : Nat) ≠ 4 by decide)]; exact hj.d1, by rw [getD_set_other (show (8 : Nat) ≠ 4 by decide), getD_set_other (show (10 : Nat) ≠ 4 by decide)]; exact hj.d2, by rw [getD_set_other (show (9 : Nat) ≠ 4 by decide), getD_set_other (show (10 : Nat) ≠ 4 by decide)]; exact hj.d3, by rw [getD_set_other (show (11 : Nat) ≠ 4 by decide), getD_set_other (show (8 : Nat) ≠ 4 by decide)]; exact hj.c1, by rw [getD_set_other (show (12 : Nat) ≠ 4 by decide), getD_set_other (show (9 : Nat) ≠ 4 by decide)]; exact hj.c2, by rw [getD_set_other (show (13 : Nat) ≠ 4 by decide), getD_set_other (show (10 : Nat) ≠ 4 by decide)]; exact hj.c3⟩
    · simp only [List.getElem?_toArray, List.getElem?_cons_succ, List.getElem?_cons_zero, Option.some.injEq] at ho
      subst ho
      obtain rfl := hj.f3 (hdep ⟨3, .data⟩ (by simp) rfl)
      obtain rfl := hj.f4 (hdep ⟨4, .data⟩ (by simp) rfl)
      refine wpOp_step rfl (fun K hK => ?_)
      go_simp
      refine (binary_or a b _).mono ?_
      rintro e w2 ⟨rfl, hk⟩
      refine hK _ _ ⟨_, _, _, _, _, _, _, _, _, _, _, rfl, ?_⟩
      exact ⟨by simpa using hj.size, below_step hj.below hk, by rw [getD_set_other (show (0 : Nat) ≠ 5 by decide)]; exact hj.f0, by rw [getD_set_other (show (1 : Nat) ≠ 5 by decide)]; exact hj.f1, by rw [getD_set_other (show (2 : Nat) ≠ 5 by decide)]; exact hj.f2, by rw [getD_set_other (show (3 : Nat) ≠ 5 by decide)]; exact hj.f3, by rw [getD_set_other (show (4 : Nat) ≠ 5 by decide)]; exact hj.f4, fun _ => rfl, by rw [getD_set_other (show (6 : Nat) ≠ 5 by decide)]; exact hj.f6, by rw [getD_set_other (show (7 : Nat) ≠ 5 by decide)]; exact hj.f7, by rw [getD_set_other (show (8 : Nat) ≠ 5 by decide), getD_set_other (show (11 : Nat) ≠ 5 by decide)]; exact fun h => (hj.f8 h).below hk, by rw [getD_set_other (show (9 : Nat) ≠ 5 by decide), getD_set_other (show (12 : Nat) ≠ 5 by decide)]; exact fun h => (hj.f9 h).below hk, by rw [getD_set_other (show (10 : Nat) ≠ 5 by decide), getD_set_other (show (13 : Nat) ≠ 5 by decide)]; exact fun h => (hj.f10 h).below hk, by rw [getD_set_other (show (8 : Nat) ≠ 5 by decide), getD_set_other (show (9 : Nat) ≠ 5 by decide)]; exact hj.d1, by rw [getD_set_other (show (8 : Nat) ≠ 5 by decide), getD_set_other (show (10 : Nat) ≠ 5 by decide)]; exact hj.d2, by rw [getD_set_other (show (9 : Nat) ≠ 5 by decide), getD_set_other (show (10 : Nat) ≠ 5 by decide)]; exact hj.d3, by rw [getD_set_other (show (11 : Nat) ≠ 5 by decide), getD_set_other (show (8 : Nat) ≠ 5 by decide)]; exact hj.c1, by rw [getD_set_other (show (12 : Nat) ≠ 5 by decide), getD_set_other (show (9 : Nat) ≠ 5 by decide)]; exact hj.c2, by rw [getD_set_other (show (13 : Nat) ≠ 5 by decide), getD_set_other (show (10 : Nat) ≠ 5 by decide)]; exact hj.c3⟩
    · have hc := hx1.cells
      refine wpOp_step rfl (fun K hK => ?_)
      go_simp
      refine hK _ _ ⟨_, _, _, _, _, _, _, _, _, _, _, rfl, ?_⟩
      exact ⟨by simpa using hj.size, hj.below, by rw [getD_set_other (show (0 : Nat) ≠ 6 by decide)]; exact hj.f0, by rw [getD_set_other (show (1 : Nat) ≠ 6 by decide)]; exact hj.f1, by rw [getD_set_other (show (2 : Nat) ≠ 6 by decide)]; exact hj.f2, by rw [getD_set_other (show (3 : Nat) ≠ 6 by decide)]; exact hj.f3, by rw [getD_set_other (show (4 : Nat) ≠ 6 by decide)]; exact hj.f4, by rw [getD_set_other (show (5 : Nat) ≠ 6 by decide)]; exact hj.f5, fun _ => rfl, by rw [getD_set_other (show (7 : Nat) ≠ 6 by decide)]; exact hj.f7, by rw [getD_set_other (show (8 : Nat) ≠ 6 by decide), getD_set_other (show (11 : Nat) ≠ 6 by decide)]; exact hj.f8, by rw [getD_set_other (show (9 : Nat) ≠ 6 by decide), getD_set_other (show (12 : Nat) ≠ 6 by decide)]; exact hj.f9, by rw [getD_set_other (show (10 : Nat) ≠ 6 by decide), getD_set_other (show (13 : Nat) ≠ 6 by decide)]; exact hj.f10, by rw [getD_set_other (show (8 : Nat) ≠ 6 by decide), getD_set_other (show (9 : Nat) ≠ 6 by decide)]; exact hj.d1, by rw [getD_set_other (show (8 : Nat) ≠ 6 by decide), getD_set_other (show (10 : Nat) ≠ 6 by decide)]; exact hj.d2, by rw [getD_set_other (show (9 : Nat) ≠ 6 by decide), getD_set_other (show (10 : Nat) ≠ 6 by decide)]; exact hj.d3, by rw [getD_set_other (show (11 : Nat) ≠ 6 by decide), getD_set_other (show (8 : Nat) ≠ 6 by decide)]; exact hj.c1, by rw [getD_set_other (show (12 : Nat) ≠ 6 by decide), getD_set_other (show (9 : Nat) ≠ 6 by decide)]; exact hj.c2, by rw [getD_set_other (show (13 : Nat) ≠ 6 by decide), getD_set_other (show (10 : Nat) ≠ 6 by decide)]; exact hj.c3⟩
    · simp only [List.getElem?_toArray, List.getElem?_cons_succ, List.getElem?_cons_zero, Option.some.injEq] at ho
      subst ho
      obtain rfl := hj.f6 (hdep ⟨6, .data⟩ (by simp) rfl)
      refine wpOp_step rfl (fun K hK => ?_)
      go_simp
      refine (unary_not a _).mono ?_
      rintro e w2 ⟨rfl, hk⟩
      refine hK _ _ ⟨_, _, _, _, _, _, _, _, _, _, _, rfl, ?_⟩
      exact ⟨by simpa using hj.size, below_step hj.below hk, by rw [getD_set_other (show (0 : Nat) ≠ 7 by decide)]; exact hj.f0, by rw [getD_set_other (show (1 : Nat) ≠ 7 by decide)]; exact hj.f1, by rw [getD_set_other (show (2 : Nat) ≠ 7 by decide)]; exact hj.f2, by rw [getD_set_other (show (3 : Nat) ≠ 7 by decide)]; exact hj.f3, by rw [getD_set_other (show (4 : Nat) ≠ 7 by decide)]; exact hj.f4, by rw [getD_set_other (show (5 : Nat) ≠ 7 by decide)]; exact hj.f5, by rw [getD_set_other (show (6 : Nat) ≠ 7 by decide)]; exact hj.f6, fun _ => rfl, by rw [getD_set_other (show (8 : Nat) ≠ 7 by decide), getD_set_other (show (11 : Nat) ≠ 7 by decide)]; exact fun h => (hj.f8 h).below hk, by rw [getD_set_other (show (9 : Nat) ≠ 7 by decide), getD_set_other (show (12 : Nat) ≠ 7 by decide)]; exact fun h => (hj.f9 h).below hk, by rw [getD_set_other (show (10 : Nat) ≠ 7 by decide), getD_set_other (show (13 : Nat) ≠ 7 by decide)]; exact fun h => (hj.f10 h).below hk, by rw [getD_set_other (show (8 : Nat) ≠ 7 by decide), getD_set_other (show (9 : Nat) ≠ 7 by decide)]; exact hj.d1, by rw [getD_set_other (show (8 : Nat) ≠ 7 by decide), getD_set_other (show (10 : Nat) ≠ 7 by decide)]; exact hj.d2, by rw [getD_set_other (show (9 : Nat) ≠ 7 by decide), getD_set_other (show (10 : Nat) ≠ 7 by decide)]; exact hj.d3, by rw [getD_set_other (show (11 : Nat) ≠ 7 by decide), getD_set_other (show (8 : Nat) ≠ 7 by decide)]; exact hj.c1, by rw [getD_set_other (show (12 : Nat) ≠ 7 by decide), getD_set_other (show (9 : Nat) ≠ 7 by decide)]; exact hj.c2, by rw [getD_set_other (show (13 : Nat) ≠ 7 by decide), getD_set_other (show (10 : Nat) ≠ 7 by decide)]; exact hj.c3⟩
    · refine wpOp_step rfl (fun K hK => ?_)
      go_simp
      refine hK _ _ ⟨_, _, _, _, _, _, _, _, _, _, _, rfl, ?_⟩
      exact ⟨by simpa using hj.size, below_step hj.below ((Below.refl _ _).alloc (Nat.le_refl _) _), by rw [getD_set_other (show (0 : Nat) ≠ 8 by decide)]; exact hj.f0, by rw [getD_set_other (show (1 : Nat) ≠ 8 by decide)]; exact hj.f1, by rw [getD_set_other (show (2 : Nat) ≠ 8 by decide)]; exact hj.f2, by rw [getD_set_other (show (3 : Nat) ≠ 8 by decide)]; exact hj.f3, by rw [getD_set_other (show (4 : Nat) ≠ 8 by decide)]; exact hj.f4, by rw [getD_set_other (show (5 : Nat) ≠ 8 by decide)]; exact hj.f5, by rw [getD_set_other (show (6 : Nat) ≠ 8 by decide)]; exact hj.f6, by rw [getD_set_other (show (7 : Nat) ≠ 8 by decide)]; exact hj.f7, fun _ => by rw [getD_set_other (show (11 : Nat) ≠ 8 by decide), nl hun hj.c1]; exact Made.new hj.below v0, by rw [getD_set_other (show (9 : Nat) ≠ 8 by decide), getD_set_other (show (12 : Nat) ≠ 8 by decide)]; exact fun h => (hj.f9 h).alloc _, by rw [getD_set_other (show (10 : Nat) ≠ 8 by decide), getD_set_other (show (13 : Nat) ≠ 8 by decide)]; exact fun h => (hj.f10 h).alloc _, fun _ h => by rw [getD_set_other (show (9 : Nat) ≠ 8 by decide)] at h; exact (hj.f9 h).lt.symm, fun _ h => by rw [getD_set_other (show (10 : Nat) ≠ 8 by decide)] at h; exact (hj.f10 h).lt.symm, by rw [getD_set_other (show (9 : Nat) ≠ 8 by decide), getD_set_other (show (10 : Nat) ≠ 8 by decide)]; exact hj.d3, fun _ => getD_self (by rw [hj.size]; decide), by rw [getD_set_other (show (12 : Nat) ≠ 8 by decide), getD_set_other (show (9 : Nat) ≠ 8 by decide)]; exact hj.c2, by rw [getD_set_other (show (13 : Nat) ≠ 8 by decide), getD_set_other (show (10 : Nat) ≠ 8 by decide)]; exact hj.c3⟩
    · refine wpOp_step rfl (fun K hK => ?_)
      go_simp
      refine hK _ _ ⟨_, _, _, _, _, _, _, _, _, _, _, rfl, ?_⟩
      exact ⟨by simpa using hj.size, below_step hj.below ((Below.refl _ _).alloc (Nat.le_refl _) _), by rw [getD_set_other (show (0 : Nat) ≠ 9 by decide)]; exact hj.f0, by rw [getD_set_other (show (1 : Nat) ≠ 9 by decide)]; exact hj.f1, by rw [getD_set_other (show (2 : Nat) ≠ 9 by decide)]; exact hj.f2, by rw [getD_set_other (show (3 : Nat) ≠ 9 by decide)]; exact hj.f3, by rw [getD_set_other (show (4 : Nat) ≠ 9 by decide)]; exact hj.f4, by rw [getD_set_other (show (5 : Nat) ≠ 9 by decide)]; exact hj.f5, by rw [getD_set_other (show (6 : Nat) ≠ 9 by decide)]; exact hj.f6, by rw [getD_set_other (show (7 : Nat) ≠ 9 by decide)]; exact hj.f7, by rw [getD_set_other (show (8 : Nat) ≠ 9 by decide), getD_set_other (show (11 : Nat) ≠ 9 by decide)]; exact fun h => (hj.f8 h).alloc _, fun _ => by rw [getD_set_other (show (12 : Nat) ≠ 9 by decide), nl hun hj.c2]; exact Made.new hj.below v0, by rw [getD_set_other (show (10 : Nat) ≠ 9 by decide), getD_set_other (show (13 : Nat) ≠ 9 by decide)]; exact fun h => (hj.f10 h).alloc _, fun h _ => by rw [getD_set_other (show (8 : Nat) ≠ 9 by decide)] at h; exact (hj.f8 h).lt, by rw [getD_set_other (show (8 : Nat) ≠ 9 by decide), getD_set_other (show (10 : Nat) ≠ 9 by decide)]; exact hj.d2, fun _ h => by rw [getD_set_other (show (10 : Nat) ≠ 9 by decide)] at h; exact (hj.f10 h).lt.symm, by rw [getD_set_other (show (11 : Nat) ≠ 9 by decide), getD_set_other (show (8 : Nat) ≠ 9 by decide)]; exact hj.c1, fun _ => getD_self (by rw [hj.size]; decide), by rw [getD_set_other (show (13 : Nat) ≠ 9 by decide), getD_set_other (show (10 : Nat) ≠ 9 by decide)]; exact hj.c3⟩
    · refine wpOp_step rfl (fun K hK => ?_)
      go_simp
      refine hK _ _ ⟨_, _, _, _, _, _, _, _, _, _, _, rfl, ?_⟩
      exact ⟨by simpa using hj.size, below_step hj.below ((Below.refl _ _).alloc (Nat.le_refl _) _), by rw [getD_set_other (show (0 : Nat) ≠ 10 by decide)]; exact hj.f0, by rw [getD_set_other (show (1 : Nat) ≠ 10 by decide)]; exact hj.f1, by rw [getD_set_other (show (2 : Nat) ≠ 10 by decide)]; exact hj.f2, by rw [getD_set_other (show (3 : Nat) ≠ 10 by decide)]; exact hj.f3, by rw [getD_set_other (show (4 : Nat) ≠ 10 by decide)]; exact hj.f4, by rw [getD_set_other (show (5 : Nat) ≠ 10 by decide)]; exact hj.f5, by rw [getD_set_other (show (6 : Nat) ≠ 10 by decide)]; exact hj.f6, by rw [getD_set_other (show (7 : Nat) ≠ 10 by decide)]; exact hj.f7, by rw [getD_set_other (show (8 : Nat) ≠ 10 by decide), getD_set_other (show (11 : Nat) ≠ 10 by decide)]; exact fun h => (hj.f8 h).alloc _, by rw [getD_set_other (show (9 : Nat) ≠ 10 by decide), getD_set_other (show (12 : Nat) ≠ 10 by decide)]; exact fun h => (hj.f9 h).alloc _, fun _ => by rw [getD_set_other (show (13 : Nat) ≠ 10 by decide), nl hun hj.c3]; exact Made.new hj.below v0, by rw [getD_set_other (show (8 : Nat) ≠ 10 by decide), getD_set_other (show (9 : Nat) ≠ 10 by decide)]; exact hj.d1, fun h _ => by rw [getD_set_other (show (8 : Nat) ≠ 10 by decide)] at h; exact (hj.f8 h).lt, fun h _ => by rw [getD_set_other (show (9 : Nat) ≠ 10 by decide)] at h; exact (hj.f9 h).lt, by rw [getD_set_other (show (11 : Nat) ≠ 10 by decide), getD_set_other (show (8 : Nat) ≠ 10 by decide)]; exact hj.c1, by rw [getD_set_other (show (12 : Nat) ≠ 10 by decide), getD_set_other (show (9 : Nat) ≠ 10 by decide)]; exact hj.c2, fun _ => getD_self (by rw [hj.size]; decide)⟩
    · have ho' := ho
      simp only [List.getElem?_toArray, List.getElem?_cons_succ, List.getElem?_cons_zero, Option.some.injEq] at ho'
      subst ho'
      have l8 := hdep ⟨8, .data⟩ (by simp) rfl
      obtain rfl := hj.f2 (hdep ⟨2, .data⟩ (by simp) rfl)
      have ln : L.getD 11 false = false := un hun
      obtain ⟨g, rfl, hg, hblk⟩ := hj.f8 l8
      rw [ln] at hblk
      have hs : Slot w1 g 41 9 := hblk.slot
      refine wpOp_step ho (fun K hK => ?_)
      go_simp
      refine hK _ _ ⟨_, _, _, _, _, _, _, _, _, _, _, rfl, ?_⟩
      exact ⟨by simpa using hj.size, below_row hj.below hg _, by rw [getD_set_other (show (0 : Nat) ≠ 11 by decide)]; exact hj.f0, by rw [getD_set_other (show (1 : Nat) ≠ 11 by decide)]; exact hj.f1, by rw [getD_set_other (show (2 : Nat) ≠ 11 by decide)]; exact hj.f2, by rw [getD_set_other (show (3 : Nat) ≠ 11 by decide)]; exact hj.f3, by rw [getD_set_other (show (4 : Nat) ≠ 11 by decide)]; exact hj.f4, by rw [getD_set_other (show (5 : Nat) ≠ 11 by decide)]; exact hj.f5, by rw [getD_set_other (show (6 : Nat) ≠ 11 by decide)]; exact hj.f6, by rw [getD_set_other (show (7 : Nat) ≠ 11 by decide)]; exact hj.f7, fun _ => by rw [getD_self (by rw [hj.size]; decide)]; exact ⟨g, rfl, hg, hblk.setRow_same _⟩, by rw [getD_set_other (show (9 : Nat) ≠ 11 by decide), getD_set_other (show (12 : Nat) ≠ 11 by decide)]; exact fun h => (hj.f9 h).other (fun e => hj.d1 l8 h e.symm) _, by rw [getD_set_other (show (10 : Nat) ≠ 11 by decide), getD_set_other (show (13 : Nat) ≠ 11 by decide)]; exact fun h => (hj.f10 h).other (fun e => hj.d2 l8 h e.symm) _, by rw [getD_set_other (show (8 : Nat) ≠ 11 by decide), getD_set_other (show (9 : Nat) ≠ 11 by decide)]; exact hj.d1, by rw [getD_set_other (show (8 : Nat) ≠ 11 by decide), getD_set_other (show (10 : Nat) ≠ 11 by decide)]; exact hj.d2, by rw [getD_set_other (show (9 : Nat) ≠ 11 by decide), getD_set_other (show (10 : Nat) ≠ 11 by decide)]; exact hj.d3, fun _ => by rw [getD_set_other (show (8 : Nat) ≠ 11 by decide)]; exact l8, by rw [getD_set_other (show (12 : Nat) ≠ 11 by decide), getD_set_other (show (9 : Nat) ≠ 11 by decide)]; exact hj.c2, by rw [getD_set_other (show (13 : Nat) ≠ 11 by decide), getD_set_other (show (10 : Nat) ≠ 11 by decide)]; exact hj.c3⟩
    · have ho' := ho
      simp only [List.getElem?_toArray, List.getElem?_cons_succ, List.getElem?_cons_zero, Option.some.injEq] at ho'
      subst ho'
      have l8 := hdep ⟨9, .data⟩ (by simp) rfl
      obtain rfl := hj.f5 (hdep ⟨5, .data⟩ (by simp) rfl)
      have ln : L.getD 12 false = false := un hun
      obtain ⟨g, rfl, hg, hblk⟩ := hj.f9 l8
      rw [ln] at hblk
      have hs : Slot w1 g 41 9 := hblk.slot
      refine wpOp_step ho (fun K hK => ?_)
      go_simp
      refine hK _ _ ⟨_, _, _, _, _, _, _, _, _, _, _, rfl, ?_⟩
      exact ⟨by simpa using hj.size, below_row hj.below hg _, by rw [getD_set_other (show (0 : Nat) ≠ 12 by decide)]; exact hj.f0, by rw [getD_set_other (show (1 : Nat) ≠ 12 by decide)]; exact hj.f1, by rw [getD_set_other (show (2 : Nat) ≠ 12 by decide)]; exact hj.f2, by rw [getD_set_other (show (3 : Nat) ≠ 12 by decide)]; exact hj.f3, by rw [getD_set_other (show (4 : Nat) ≠ 12 by decide)]; exact hj.f4, by rw [getD_set_other (show (5 : Nat) ≠ 12 by decide)]; exact hj.f5, by rw [getD_set_other (show (6 : Nat) ≠ 12 by decide)]; exact hj.f6, by rw [getD_set_other (show (7 : Nat) ≠ 12 by decide)]; exact hj.f7, by rw [getD_set_other (show (8 : Nat) ≠ 12 by decide), getD_set_other (show (11 : Nat) ≠ 12 by decide)]; exact fun h => (hj.f8 h).other (hj.d1 h l8) _, fun _ => by rw [getD_self (by rw [hj.size]; decide)]; exact ⟨g, rfl, hg, hblk.setRow_same _⟩, by rw [getD_set_other (show (10 : Nat) ≠ 12 by decide), getD_set_other (show (13 : Nat) ≠ 12 by decide)]; exact fun h => (hj.f10 h).other (fun e => hj.d3 l8 h e.symm) _, by rw [getD_set_other (show (8 : Nat) ≠ 12 by decide), getD_set_other (show (9 : Nat) ≠ 12 by decide)]; exact hj.d1, by rw [getD_set_other (show (8 : Nat) ≠ 12 by decide), getD_set_other (show (10 : Nat) ≠ 12 by decide)]; exact hj.d2, by rw [getD_set_other (show (9 : Nat) ≠ 12 by decide), getD_set_other (show (10 : Nat) ≠ 12 by decide)]; exact hj.d3, by rw [getD_set_other (show (11 : Nat) ≠ 12 by decide), getD_set_other (show (8 : Nat) ≠ 12 by decide)]; exact hj.c1, fun _ => by rw [getD_set_other (show (9 : Nat) ≠ 12 by decide)]; exact l8, by rw [getD_set_other (show (13 : Nat) ≠ 12 by decide), getD_set_other (show (10 : Nat) ≠ 12 by decide)]; exact hj.c3⟩
    · have ho' := ho
      simp only [List.getElem?_toArray, List.getElem?_cons_succ, List.getElem?_cons_zero, Option.some.injEq] at ho'
      subst ho'
      have l8 := hdep ⟨10, .data⟩ (by simp) rfl
      obtain rfl := hj.f7 (hdep ⟨7, .data⟩ (by simp) rfl)
      have ln : L.getD 13 false = false := un hun
      obtain ⟨g, rfl, hg, hblk⟩ := hj.f10 l8
      rw [ln] at hblk
      have hs : Slot w1 g 41 9 := hblk.slot
      refine wpOp_step ho (fun K hK => ?_)
      go_simp
      refine hK _ _ ⟨_, _, _, _, _, _, _, _, _, _, _, rfl, ?_⟩
      exact ⟨by simpa using hj.size, below_row hj.below hg _, by rw [getD_set_other (show (0 : Nat) ≠ 13 by decide)]; exact hj.f0, by rw [getD_set_other (show (1 : Nat) ≠ 13 by decide)]; exact hj.f1, by rw [getD_set_other (show (2 : Nat) ≠ 13 by decide)]; exact hj.f2, by rw [getD_set_other (show (3 : Nat) ≠ 13 by decide)]; exact hj.f3, by rw [getD_set_other (show (4 : Nat) ≠ 13 by decide)]; exact hj.f4, by rw [getD_set_other (show (5 : Nat) ≠ 13 by decide)]; exact hj.f5, by rw [getD_set_other (show (6 : Nat) ≠ 13 by decide)]; exact hj.f6, by rw [getD_set_other (show (7 : Nat) ≠ 13 by decide)]; exact hj.f7, by rw [getD_set_other (show (8 : Nat) ≠ 13 by decide), getD_set_other (show (11 : Nat) ≠ 13 by decide)]; exact fun h => (hj.f8 h).other (hj.d2 h l8) _, by rw [getD_set_other (show (9 : Nat) ≠ 13 by decide), getD_set_other (show (12 : Nat) ≠ 13 by decide)]; exact fun h => (hj.f9 h).other (hj.d3 h l8) _, fun _ => by rw [getD_self (by rw [hj.size]; decide)]; exact ⟨g, rfl, hg, hblk.setRow_same _⟩, by rw [getD_set_other (show (8 : Nat) ≠ 13 by decide), getD_set_other (show (9 : Nat) ≠ 13 by decide)]; exact hj.d1, by rw [getD_set_other (show (8 : Nat) ≠ 13 by decide), getD_set_other (show (10 : Nat) ≠ 13 by decide)]; exact hj.d2, by rw [getD_set_other (show (9 : Nat) ≠ 13 by decide), getD_set_other (show (10 : Nat) ≠ 13 by decide)]; exact hj.d3, by rw [getD_set_other (show (11 : Nat) ≠ 13 by decide), getD_set_other (show (8 : Nat) ≠ 13 by decide)]; exact hj.c1, by rw [getD_set_other (show (12 : Nat) ≠ 13 by decide), getD_set_other (show (9 : Nat) ≠ 13 by decide)]; exact hj.c2, fun _ => by rw [getD_set_other (show (10 : Nat) ≠ 13 by decide)]; exact l8⟩
  · rintro L act w1 ⟨v7, v8, v9, v14, v15, v16, v17, v18, v19, v20, v21, rfl, hj⟩ hr
    have hall := all_listed (md := .any) (by kernel_rfl) hj.size hr
    have m1 := hj.f8 (hall 8 (by decide))
    have m2 := hj.f9 (hall 9 (by decide))
    have m3 := hj.f10 (hall 10 (by decide))
    rw [hall 11 (by decide)] at m1
    rw [hall 12 (by decide)] at m2
    rw [hall 13 (by decide)] at m3
    obtain ⟨g1, rfl, l1, b1⟩ := m1
    obtain ⟨g2, rfl, l2, b2⟩ := m2
    obtain ⟨g3, rfl, l3, b3⟩ := m3
    have hx1 := hx.below' hj.below
    have hy1 := hy.below' hj.below
    have hb := hb0.trans (hj.below.mono (by rw [← hpx]; exact hb0.size))
    rw [if_pos rfl] at b1 b2 b3
    have k1 := b1.cells
    have k2 := b2.cells
    have k3 := b3.cells
    have kx := hx1.cells
    have ky := hy1.cells
    clear hj hall hr hx hy hb0 l1 l2 l3
    cases a <;> cases b
    all_goals
      clear b1 b2 b3
      go_wp2_with fail
      refine (compare_eq' _ _ _).mono ?_
      rintro e w2 ⟨rfl, hk⟩
      have lx := (hx1.below' hk).cells
      have ly := (hy1.below' hk).cells
      go_wp2_with fail
      refine (compare_ne' _ _ _).mono ?_
      rintro e w3 ⟨rfl, hk3⟩
      go_wp2_with fail
      go_ret
      subst hpx
      exact ⟨rfl, below_step (below_step hb hk) hk3⟩

end Tr
end Go.Proofs.YtdpnoaaeplgdjaaGreatDoor
