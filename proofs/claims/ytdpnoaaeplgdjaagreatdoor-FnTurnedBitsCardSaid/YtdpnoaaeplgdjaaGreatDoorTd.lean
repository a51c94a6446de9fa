/-
  THE WALK OF the thin package's told and Unary, of an integer.
-/
import Derived.Test.YtdpnoaaeplgdjaaGreatDoorPt
import Derived.Test.YtdpnoaaeplgdjaaGreatDoorTrTwo
import Derived.Test.YtdpnoaaeplgdjaaGreatDoorUo
namespace Go.Proofs.YtdpnoaaeplgdjaaGreatDoor
open Go.RowKit Go.Proofs.YtdpnoaaeplgdjaaGreatDoorW.PrintWords Go.Proofs.YtdpnoaaeplgdjaaGreatDoorW.PrintMore
namespace Wa
open Rg Dg Sp

set_option maxRecDepth 100000 in
theorem kind_small (x : Int) (w : World) : Calls Tryz.prog 386 #[.int .i64 x] w fun e w' => e = .returned (.int .i64 3) ∧ Below w.heap.size w w' := by
  go_enter Tryz.func386, Tryz.ntmps386
  go_wp2
  go_ret
  exact ⟨rfl, Below.refl _ _⟩
set_option maxRecDepth 100000 in
theorem kind_big (g : Nat) (w : World) : Calls Tryz.prog 391 #[.agg #[.pointer (some ⟨g, 0, none⟩)]] w fun e w' => e = .returned (.int .i64 3) ∧ Below w.heap.size w w' := by
  go_enter Tryz.func391, Tryz.ntmps391
  go_wp2
  go_ret
  first
    | exact ⟨rfl, Below.refl _ _⟩
    | exact ⟨rfl, (Below.refl _ _).alloc (Nat.le_refl _) _⟩

theorem Slot_setCell (w : World) (a : Addr) (u : Value) (g : Nat) (t : TypeId) (n : Nat) : Slot (w.setCell a u) g t n = Slot w g t n := by
  unfold Slot Blk World.setCell
  simp only [Array.getElem?_modify]
  by_cases h : a.block = g
  · subst h
    rw [if_pos rfl]
    cases hq : w.heap[a.block]? with
    | none => simp
    | some o =>
      cases o with
      | cells c e f =>
        simp only [Option.map_some, Option.some.injEq, Obj.cells.injEq]
        refine propext ⟨fun ⟨cs, ⟨h0, h1, h2⟩, h3⟩ => ⟨c, ⟨rfl, h1, h2⟩, ?_⟩, fun ⟨cs, ⟨h0, h1, h2⟩, h3⟩ => ⟨_, ⟨rfl, h1, h2⟩, ?_⟩⟩
        · rw [← h3, ← h0]; split <;> simp
        · rw [← h3, ← h0]; split <;> simp
      | _ => simp
  · rw [if_neg h]
attribute [local go_sem] Slot_setCell

/-- An empty value of the thin package, of the kind of integers. -/
abbrev v3 : Array Value := #[.int .i64 3, .bool false, .string ⟨#[]⟩, .bool false, .slice none 0 0, .slice none 0 0, .bool false, .slice none 0 0, .slice none 0 0]

set_option maxRecDepth 100000 in
set_option maxHeartbeats 8000000 in
theorem told_small {w : World} {m : Nat} {s : Bool} (hsm : small s m) (hs : s = true → 0 < m) (hl : nw m ≤ 900) : Calls Tryz.prog 28 #[.iface 86 (.int .i64 (sv s m))] w fun e w' => ∃ u, e = .returned (.agg (iv s u)) ∧ w'.ownsRow 0 43 1 u (nw m) (wl m (nw m)) ∧ (∀ b, u.ownBlock = some b → w.heap.size ≤ b) ∧ Below w.heap.size w w' := by
  have hp := fun w => parts_small (w := w) hsm hs hl
  obtain ⟨w1, hw1⟩ : ∃ w1, w.alloc (.cells Tr.v0 41) = w1 := ⟨_, rfl⟩
  have hB1 : Blk w1 w.heap.size 41 Tr.v0 := by rw [← hw1]; exact Blk.new w 41 _
  have hb1 : Below w.heap.size w w1 := by rw [← hw1]; exact (Below.refl _ _).alloc (Nat.le_refl _) _
  have HW : Hid (w.alloc (.cells Tr.v0 41) = w1) := hw1
  have HP : Hid (∀ w, Calls Tryz.prog 47 #[.iface 86 (.int .i64 (sv s m))] w (Parted w s m)) := hp
  clear hw1 hp
  obtain ⟨X, hX⟩ : ∃ X : Int, sv s m = X := ⟨_, rfl⟩
  have HX : Hid (sv s m = X) := hX
  rw [hX]
  clear hX hsm hs
  go_enter Tryz.func28, Tryz.ntmps28
  go_wp2_with fail
  rw [HW.out]
  refine (kind_small X w1).mono ?_
  rintro e w2 ⟨rfl, hb2⟩
  have hB2 := Blk.below' hB1 hb2
  have hb2' : Below w.heap.size w w2 := hb1.trans (hb2.mono hb1.size)
  clear hb2 hB1 hb1
  go_wp2_with fail
  obtain ⟨w3, hw3⟩ : ∃ w3, w2.alloc (.cells v3 41) = w3 := ⟨_, rfl⟩
  have HW3 : Hid (w2.alloc (.cells v3 41) = w3) := hw3
  have hB3 : Blk w3 w.heap.size 41 Tr.v0 := by rw [← hw3]; exact hB2.alloc _
  have hC3 : Blk w3 w2.heap.size 41 v3 := by rw [← hw3]; exact Blk.new w2 41 _
  have hb3 : Below w.heap.size w w3 := by rw [← hw3]; exact hb2'.alloc hb2'.size _
  have hlt : w.heap.size < w2.heap.size := hB2.lt
  clear hw3 hB2
  rw [HW3.out]
  refine (kind_small X w3).mono ?_
  rintro e w4 ⟨rfl, hb4⟩
  go_wp2_with fail
  rw [← HX.out]
  refine (HP.out w4).mono ?_
  rintro e w5 ⟨u, d, rfl, hu, hun, hb5⟩
  have hB5 := Blk.below' (Blk.below' hB3 hb4) hb5
  have hC5 := Blk.below' (Blk.below' hC3 hb4) hb5
  have hc := hC5.cells
  have hf3 := hC5.frozen 3
  have hf4 := hC5.frozen 4
  have hc3 := hC5.cell 3
  have hc4 := hC5.cell 4
  simp only [List.getElem?_toArray, List.getElem?_cons_zero, List.getElem?_cons_succ] at hc3 hc4
  have hb5' : Below w.heap.size w w5 := (hb3.trans (hb4.mono hb3.size)).trans (hb5.mono (Nat.le_trans hb3.size hb4.size))
  have hne : w2.heap.size ≠ w.heap.size := by omega
  have HU : Hid (w5.ownsRow 0 43 1 u (nw m) (wl m (nw m))) := hu
  obtain ⟨A, n, c, rfl⟩ : ∃ A n c, u = .slice A n c := by
    rcases hu.2 with ⟨rfl, _⟩ | ⟨g, cap, cur, rfl, _⟩
    · exact ⟨_, _, _, rfl⟩
    · exact ⟨_, _, _, rfl⟩
  have hS : Slot w5 w.heap.size 41 9 := hB5.slot
  have HB5 : Hid (Blk w5 w.heap.size 41 Tr.v0) := hB5
  have HC5 : Hid (Blk w5 w2.heap.size 41 v3) := hC5
  have HL : Hid (w.heap.size < w2.heap.size ∧ w2.heap.size < w4.heap.size) := ⟨hlt, (Blk.below' hC3 hb4).lt⟩
  have HN : Hid (∀ b, (Value.slice A n c).ownBlock = some b → w4.heap.size ≤ b) := hun
  have HBB : Hid (Below w.heap.size w w5) := hb5'
  clear hb2' hB3 hC3 hb3 hb4 hb5 hB5 hC5 hu hun hlt hb5'
  go_wp2_with fail
  have h1 : w5.grownBy ((w5.setCell ⟨w2.heap.size, 3, none⟩ (.bool s)).setCell ⟨w2.heap.size, 4, none⟩ (.slice A n c)) (some w2.heap.size) := grown_setCell (grown_setCell (World.grownBy.refl _ _))
  have hB6 := Blk.grown HB5.out h1 (fun e => by have := Option.some.inj e; have := HL.out.1; omega)
  have h2 := only_setRow (World.grownBy.refl ((w5.setCell ⟨w2.heap.size, 3, none⟩ (.bool s)).setCell ⟨w2.heap.size, 4, none⟩ (.slice A n c)) (some w.heap.size)) (iv s (.slice A n c))
  have hu6 := World.ownsRow.kept HU.out h1 (.inr (fun e => by have := HN.out _ e; have := HL.out.2; omega))
  have hu7 := World.ownsRow.kept hu6 h2 (.inr (fun e => by have := HN.out _ e; have := HL.out; omega))
  have hb6 := HBB.out.grown h1 HBB.out.size (fun k hk => by have := HL.out.1; injection hk with hk; omega)
  exact Tr.ret_blk (cs := iv s (.slice A n c)) rfl rfl rfl (hB6.setRow_same _) rfl ⟨_, rfl, hu7, fun b hb => by have := HN.out b hb; have := HL.out; omega, hb6.grown h2 hb6.size (fun k hk => by injection hk with hk; omega)⟩

set_option maxRecDepth 100000 in
set_option maxHeartbeats 8000000 in
theorem told_big {w : World} {g m : Nat} {s : Bool} {v : Value} (hz : Bi w g s v) (hv : Nt w v m) (hs : s = true → 0 < m) (hl : nw m ≤ 900) : Calls Tryz.prog 28 #[.iface 89 (.agg #[.pointer (some ⟨g, 0, none⟩)])] w fun e w' => ∃ u, e = .returned (.agg (iv s u)) ∧ w'.ownsRow 0 43 1 u (nw m) (wl m (nw m)) ∧ (∀ b, u.ownBlock = some b → w.heap.size ≤ b) ∧ Below w.heap.size w w' := by
  have hp := fun (w' : World) (hb : Below w.heap.size w w') => parts_big (w := w') (Blk.below' hz hb) (hv.below hb) hs hl
  obtain ⟨w1, hw1⟩ : ∃ w1, w.alloc (.cells Tr.v0 41) = w1 := ⟨_, rfl⟩
  have hB1 : Blk w1 w.heap.size 41 Tr.v0 := by rw [← hw1]; exact Blk.new w 41 _
  have hb1 : Below w.heap.size w w1 := by rw [← hw1]; exact (Below.refl _ _).alloc (Nat.le_refl _) _
  have HW : Hid (w.alloc (.cells Tr.v0 41) = w1) := hw1
  have HP : Hid (∀ w', Below w.heap.size w w' → Calls Tryz.prog 47 #[.iface 89 (.agg #[.pointer (some ⟨g, 0, none⟩)])] w' (Parted w' s m)) := hp
  clear hw1 hp
  clear hz hv hs
  go_enter Tryz.func28, Tryz.ntmps28
  go_wp2_with fail
  rw [HW.out]
  refine (kind_big g w1).mono ?_
  rintro e w2 ⟨rfl, hb2⟩
  have hB2 := Blk.below' hB1 hb2
  have hb2' : Below w.heap.size w w2 := hb1.trans (hb2.mono hb1.size)
  clear hb2 hB1 hb1
  go_wp2_with fail
  obtain ⟨w3, hw3⟩ : ∃ w3, w2.alloc (.cells v3 41) = w3 := ⟨_, rfl⟩
  have HW3 : Hid (w2.alloc (.cells v3 41) = w3) := hw3
  have hB3 : Blk w3 w.heap.size 41 Tr.v0 := by rw [← hw3]; exact hB2.alloc _
  have hC3 : Blk w3 w2.heap.size 41 v3 := by rw [← hw3]; exact Blk.new w2 41 _
  have hb3 : Below w.heap.size w w3 := by rw [← hw3]; exact hb2'.alloc hb2'.size _
  have hlt : w.heap.size < w2.heap.size := hB2.lt
  clear hw3 hB2
  rw [HW3.out]
  refine (kind_big g w3).mono ?_
  rintro e w4 ⟨rfl, hb4⟩
  go_wp2_with fail
  refine (HP.out w4 (hb3.trans (hb4.mono hb3.size))).mono ?_
  rintro e w5 ⟨u, d, rfl, hu, hun, hb5⟩
  have hB5 := Blk.below' (Blk.below' hB3 hb4) hb5
  have hC5 := Blk.below' (Blk.below' hC3 hb4) hb5
  have hc := hC5.cells
  have hf3 := hC5.frozen 3
  have hf4 := hC5.frozen 4
  have hc3 := hC5.cell 3
  have hc4 := hC5.cell 4
  simp only [List.getElem?_toArray, List.getElem?_cons_zero, List.getElem?_cons_succ] at hc3 hc4
  have hb5' : Below w.heap.size w w5 := (hb3.trans (hb4.mono hb3.size)).trans (hb5.mono (Nat.le_trans hb3.size hb4.size))
  have hne : w2.heap.size ≠ w.heap.size := by omega
  have HU : Hid (w5.ownsRow 0 43 1 u (nw m) (wl m (nw m))) := hu
  obtain ⟨A, n, c, rfl⟩ : ∃ A n c, u = .slice A n c := by
    rcases hu.2 with ⟨rfl, _⟩ | ⟨g, cap, cur, rfl, _⟩
    · exact ⟨_, _, _, rfl⟩
    · exact ⟨_, _, _, rfl⟩
  have hS : Slot w5 w.heap.size 41 9 := hB5.slot
  have HB5 : Hid (Blk w5 w.heap.size 41 Tr.v0) := hB5
  have HC5 : Hid (Blk w5 w2.heap.size 41 v3) := hC5
  have HL : Hid (w.heap.size < w2.heap.size ∧ w2.heap.size < w4.heap.size) := ⟨hlt, (Blk.below' hC3 hb4).lt⟩
  have HN : Hid (∀ b, (Value.slice A n c).ownBlock = some b → w4.heap.size ≤ b) := hun
  have HBB : Hid (Below w.heap.size w w5) := hb5'
  clear hb2' hB3 hC3 hb3 hb4 hb5 hB5 hC5 hu hun hlt hb5'
  go_wp2_with fail
  have h1 : w5.grownBy ((w5.setCell ⟨w2.heap.size, 3, none⟩ (.bool s)).setCell ⟨w2.heap.size, 4, none⟩ (.slice A n c)) (some w2.heap.size) := grown_setCell (grown_setCell (World.grownBy.refl _ _))
  have hB6 := Blk.grown HB5.out h1 (fun e => by have := Option.some.inj e; have := HL.out.1; omega)
  have h2 := only_setRow (World.grownBy.refl ((w5.setCell ⟨w2.heap.size, 3, none⟩ (.bool s)).setCell ⟨w2.heap.size, 4, none⟩ (.slice A n c)) (some w.heap.size)) (iv s (.slice A n c))
  have hu6 := World.ownsRow.kept HU.out h1 (.inr (fun e => by have := HN.out _ e; have := HL.out.2; omega))
  have hu7 := World.ownsRow.kept hu6 h2 (.inr (fun e => by have := HN.out _ e; have := HL.out; omega))
  have hb6 := HBB.out.grown h1 HBB.out.size (fun k hk => by have := HL.out.1; injection hk with hk; omega)
  exact Tr.ret_blk (cs := iv s (.slice A n c)) rfl rfl rfl (hB6.setRow_same _) rfl ⟨_, rfl, hu7, fun b hb => by have := HN.out b hb; have := HL.out; omega, hb6.grown h2 hb6.size (fun k hk => by injection hk with hk; omega)⟩

theorem told_c {w : World} {x : Value} {m : Nat} {s : Bool} (h : Cv w x s m) (hs : s = true → 0 < m) (hl : nw m ≤ 900) : Calls Tryz.prog 28 #[x] w fun e w' => ∃ u, e = .returned (.agg (iv s u)) ∧ w'.ownsRow 0 43 1 u (nw m) (wl m (nw m)) ∧ (∀ b, u.ownBlock = some b → w.heap.size ≤ b) ∧ Below w.heap.size w w' := by
  rcases h with ⟨h1, rfl⟩ | ⟨_, g, v, rfl, hz, hv⟩
  · exact told_small h1 hs hl
  · exact told_big hz hv hs hl

theorem sign2 (w : World) : Calls Tryz.prog 27 #[.int .i64 2] w fun e w' => e = .returned (.tuple #[.int .i64 19, .bool true]) ∧ Below w.heap.size w w' := by
  go_enter Tryz.func27, Tryz.ntmps27
  go_wp2
  go_ret2
  exact ⟨rfl, (Below.refl _ _).alloc (Nat.le_refl _) _⟩

theorem out_sign (s : Bool) (m p : Nat) : (out s m p).1 = true → 0 < (out s m p).2 := by
  unfold out
  split
  · cases s
    · intro _; exact Nat.succ_pos m
    · intro h; cases h
  · intro h; cases h
theorem out_le (s : Bool) (m p : Nat) : (out s m p).2 ≤ m + 1 ∨ (out s m p).2 ≤ 2 ^ p := by
  unfold out
  split
  · left; cases s
    · exact Nat.le_refl _
    · show m - 1 ≤ m + 1; omega
  · right
    cases s
    · show 2 ^ p - 1 - m % 2 ^ p ≤ 2 ^ p; omega
    · exact Nat.le_of_lt (Nat.mod_lt _ (Nat.two_pow_pos p))

set_option maxRecDepth 100000 in
set_option maxHeartbeats 8000000 in
theorem unary_int {w : World} {u : Value} {ws : List Nat} {p : Nat} (h : Arg w u ws) (neg : Bool) (hl : nw (wv ws + 1) ≤ 900) (hp : p ≤ 300) :
    Calls Tryz.prog 15 #[.int .i64 2, .agg (iv neg u), .int .u64 (p : Int)] w fun e w' => ∃ u', e = .returned (.agg (iv (out (neg && decide (0 < wv ws)) (wv ws) p).1 u')) ∧ Us w' u' (wds (out (neg && decide (0 < wv ws)) (wv ws) p).2) ∧ Below w.heap.size w w' := by
  have hlo : nw (out (neg && decide (0 < wv ws)) (wv ws) p).2 ≤ 900 := by
    rcases out_le (neg && decide (0 < wv ws)) (wv ws) p with h1 | h1
    · exact Nat.le_trans (nw_mono h1) hl
    · exact Nat.le_trans (nw_mono h1) (nw_pow p hp)
  have hA : Blk ((w.alloc (.cells (iv neg u) 41)).alloc (.cells Tr.v0 41)) w.heap.size 41 (iv neg u) := (Blk.new w 41 (iv neg u)).alloc _
  have hC : Blk ((w.alloc (.cells (iv neg u) 41)).alloc (.cells Tr.v0 41)) (w.heap.size + 1) 41 Tr.v0 := by
    have := Blk.new (w.alloc (.cells (iv neg u) 41)) 41 Tr.v0
    simpa using this
  have hb0 : Below w.heap.size w ((w.alloc (.cells (iv neg u) 41)).alloc (.cells Tr.v0 41)) := ((Below.refl _ _).alloc (Nat.le_refl _) _).alloc (by simp) _
  have ha0 : Arg ((w.alloc (.cells (iv neg u) 41)).alloc (.cells Tr.v0 41)) u ws := (h.below ((Below.refl _ _).alloc (Nat.le_refl _) _)).below ((Below.refl _ _).alloc (Nat.le_refl _) _)
  obtain ⟨w0, hw0⟩ : ∃ w0, (w.alloc (.cells (iv neg u) 41)).alloc (.cells Tr.v0 41) = w0 := ⟨_, rfl⟩
  have HW : Hid ((w.alloc (.cells (iv neg u) 41)).alloc (.cells Tr.v0 41) = w0) := hw0
  rw [hw0] at hA hC hb0 ha0
  have hu0 := ha0.2.2
  obtain ⟨A, c, hform, _⟩ := hu0
  have HA : Hid (Arg w0 u ws) := ha0
  clear hw0 ha0 h
  subst hform
  obtain ⟨s, hs⟩ : ∃ s, (neg && decide (0 < wv ws)) = s := ⟨_, rfl⟩
  have HS : Hid ((neg && decide (0 < wv ws)) = s) := hs
  have HSP : Hid (s = true → 0 < wv ws) := fun e => by rw [← hs] at e; simp at e; exact e.2
  rw [hs] at hlo ⊢
  clear hs
  go_enter Tryz.func15, Tryz.ntmps15
  go_wp2_with fail
  rw [HW.out]
  refine (sign2 w0).mono ?_
  rintro e w1 ⟨rfl, hb1⟩
  have hA1 := Blk.below' hA hb1
  have cA := hA1.cells
  have hC1 := Blk.below' hC hb1
  go_wp2_with fail
  refine (made_int (HA.out.below hb1) neg).mono ?_
  rintro e w2 ⟨x, rfl, hcv, hb2⟩
  rw [HS.out] at hcv
  clear cA
  go_wp2_with fail
  refine (unary_c hcv HSP.out hl hp).mono ?_
  rintro e w3 ⟨y, rfl, hcy, hb3⟩
  go_wp2_with fail
  refine (told_c hcy (out_sign s (wv ws) p) hlo).mono ?_
  rintro e w4 ⟨u', rfl, hu', hn', hb4⟩
  have hC4 := Blk.below' (Blk.below' (Blk.below' hC1 hb2) hb3) hb4
  have cC : Slot w4 (w.heap.size + 1) 41 9 := hC4.slot
  have hb5 := Rg.below_step (Rg.below_step (Rg.below_step (Rg.below_step hb0 hb1) hb2) hb3) hb4
  have hlt3 : w.heap.size + 1 < w3.heap.size := (Blk.below' (Blk.below' hC1 hb2) hb3).lt
  have HB5 : Hid (Below w.heap.size w w4) := hb5
  have HC4 : Hid (Blk w4 (w.heap.size + 1) 41 Tr.v0) := hC4
  have HU : Hid (w4.ownsRow 0 43 1 u' (nw (out s (wv ws) p).2) (wl (out s (wv ws) p).2 (nw (out s (wv ws) p).2))) := hu'
  have HN : Hid (∀ b, u'.ownBlock = some b → w.heap.size + 1 < b) := fun b hb => Nat.lt_of_lt_of_le hlt3 (hn' b hb)
  obtain ⟨A', n', c', rfl⟩ : ∃ A n c, u' = .slice A n c := by
    rcases hu'.2 with ⟨rfl, _⟩ | ⟨g, cap, cur, rfl, _⟩
    · exact ⟨_, _, _, rfl⟩
    · exact ⟨_, _, _, rfl⟩
  obtain ⟨so, hso⟩ : ∃ so, (out s (wv ws) p).1 = so := ⟨_, rfl⟩
  have HSO : Hid ((out s (wv ws) p).1 = so) := hso
  rw [hso]
  clear hb1 hb2 hb3 hb4 hA hC hb0 hA1 hC1 hC4 hb5 hcv hcy hu' hn' hlt3 hso
  go_wp2_with fail
  have h2 := only_setRow (World.grownBy.refl w4 (some (w.heap.size + 1))) (iv so (.slice A' n' c'))
  have hu7 := World.ownsRow.kept HU.out h2 (.inr (fun e => by have := HN.out _ e; omega))
  exact Tr.ret_blk (cs := iv so (.slice A' n' c')) rfl rfl rfl (HC4.out.setRow_same _) rfl ⟨_, by rw [HSO.out], Us.of_own hu7, HB5.out.grown h2 HB5.out.size (fun k hk => by injection hk with hk; omega)⟩
end Wa
end Go.Proofs.YtdpnoaaeplgdjaaGreatDoor
