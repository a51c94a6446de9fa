/-
  THE WALK OF the thin package's parts and told, of an integer.
-/
import Derived.Test.YtdpnoaaeplgdjaaGreatDoorPa
import Derived.Laws.ResultCell
namespace Go.Proofs.YtdpnoaaeplgdjaaGreatDoor
open Go.RowKit Go.Proofs.YtdpnoaaeplgdjaaGreatDoorW.PrintWords Go.Proofs.YtdpnoaaeplgdjaaGreatDoorW.PrintMore
namespace Wa
open Rg Dg Sp
attribute [local go_sem ↓] exec_store24

theorem ret_parts {f : Func} {p q : Tmp} {R : Ending → World → Prop} {a : Act} {w : World} (h : f.results = #[.cell p 24, .tmp q]) (hd : a.defers = []) {g : Nat} {cs : Array Value} (hp : a.tmps.getD p undef = .pointer (some ⟨g, 0, none⟩)) (hg : Blk w g 24 cs) (hs : cs.size = 2)
    (hR : R (.returned (.tuple #[.agg cs, a.tmps.getD q undef])) w) : bodyPost Tryz.prog f R .ret a w := by
  have hl := run_loadVar_row (P := Tryz.prog) w g 24 24 cs (0, 0) _ hg Tryz.underlying24 rfl (by rw [hs]; exact size24)
  refine bodyPost_ret (v := .tuple #[.agg cs, a.tmps.getD q undef]) ?_ hd hR
  rw [results_cell_tmp h, hp]
  simp [asAddr, hl]

/-- What parts leaves. -/
def Parted (w : World) (s : Bool) (m : Nat) (e : Ending) (w' : World) : Prop := ∃ u d, e = .returned (.tuple #[.agg #[.bool s, u], d]) ∧ w'.ownsRow 0 43 1 u (nw m) (wl m (nw m)) ∧ (∀ b, u.ownBlock = some b → w.heap.size ≤ b) ∧ Below w.heap.size w w'

set_option maxRecDepth 100000 in
set_option maxHeartbeats 4000000 in
theorem parts_small {w : World} {m : Nat} {s : Bool} (hsm : small s m) (hs : s = true → 0 < m) (hl : nw m ≤ 900) : Calls Tryz.prog 47 #[.iface 86 (.int .i64 (sv s m))] w (Parted w s m) := by
  have hsb : (s && decide (0 < m)) = s := by
    cases s with
    | false => rfl
    | true => simp [hs rfl]
  obtain ⟨w1, hw1⟩ : ∃ w1, w.alloc (.cells #[.bool false, .slice none 0 0] 24) = w1 := ⟨_, rfl⟩
  have hB1 : Blk w1 w.heap.size 24 #[.bool false, .slice none 0 0] := by rw [← hw1]; exact Blk.new w 24 _
  have hb1 : Below w.heap.size w w1 := by rw [← hw1]; exact (Below.refl _ _).alloc (Nat.le_refl _) _
  have HW : Hid (w.alloc (.cells #[.bool false, .slice none 0 0] 24) = w1) := hw1
  obtain ⟨X, hX⟩ : ∃ X : Int, sv s m = X := ⟨_, rfl⟩
  have HX : Hid (sv s m = X) := hX
  have HSM : Hid (small s m ∧ (s = true → 0 < m)) := ⟨hsm, hs⟩
  rw [hX]
  clear hw1 hX hsm hs
  go_enter Tryz.func47, Tryz.ntmps47
  go_wp2_with fail
  rw [HW.out]
  refine (val_small X w1).mono ?_
  rintro e w2 ⟨rfl, hb2⟩
  obtain ⟨w3, hw3⟩ : ∃ w3, w2.alloc (.cells #[.bool false, .slice none 0 0] 161) = w3 := ⟨_, rfl⟩
  have HW3 : Hid (w2.alloc (.cells #[.bool false, .slice none 0 0] 161) = w3) := hw3
  have hz3 : Bi w3 w2.heap.size false (.slice none 0 0) := by rw [← hw3]; exact Blk.new w2 161 _
  have hB3 : Blk w3 w.heap.size 24 #[.bool false, .slice none 0 0] := by rw [← hw3]; exact (Blk.below' hB1 hb2).alloc _
  have hb3 : Below w.heap.size w w3 := by rw [← hw3]; exact (hb1.trans (hb2.mono hb1.size)).alloc (Nat.le_trans hb1.size hb2.size) _
  have hlt : w.heap.size < w2.heap.size := (Blk.below' hB1 hb2).lt
  clear hw3
  go_wp2_with fail
  rw [HW3.out, ← HX.out]
  refine (setInt64_c hz3 HSM.out.1 HSM.out.2).mono ?_
  rintro e w4 ⟨rfl, v4, hz4, hv4, hg4⟩
  have hB4 := Blk.grown hB3 hg4 (fun e => by have := Option.some.inj e; omega)
  have hb4 : Below w.heap.size w w4 := hb3.grown hg4 hb3.size (fun k hk => by injection hk with hk; omega)
  go_wp2_with fail
  refine (number_c hz4 hv4 hl).mono ?_
  rintro e w5 ⟨u, rfl, hu, hb5⟩
  rw [hsb]
  obtain ⟨w6, hw6⟩ : ∃ w6, w5.alloc (.cells #[.int .u64 1] 43) = w6 := ⟨_, rfl⟩
  have HW6 : Hid (w5.alloc (.cells #[.int .u64 1] 43) = w6) := hw6
  have hB6 : Blk w6 w.heap.size 24 #[.bool false, .slice none 0 0] := by rw [← hw6]; exact (Blk.below' hB4 hb5).alloc _
  have hS : Slot (w5.alloc (.cells #[.int .u64 1] 43)) w.heap.size 24 2 := by rw [hw6]; exact hB6.slot
  have HB6 : Hid (Below w.heap.size w w6) := by rw [← hw6]; exact (hb4.trans (hb5.mono hb4.size)).alloc (Nat.le_trans hb4.size hb5.size) _
  have HNE : Hid (∀ b, u.ownBlock = some b → w.heap.size < b) := fun b hb => by
    have := (hu.lt b hb).1
    have := hB4.lt
    omega
  have HU : Hid (w6.ownsRow 0 43 1 u (nw m) (wl m (nw m))) := by rw [← hw6]; exact (own_weaken hu (Nat.zero_le _)).alloc _
  obtain ⟨A, n, c, rfl⟩ : ∃ A n c, u = .slice A n c := by
    rcases hu.2 with ⟨rfl, _⟩ | ⟨g, cap, cur, rfl, _⟩
    · exact ⟨_, _, _, rfl⟩
    · exact ⟨_, _, _, rfl⟩
  clear hw6 hB6 hB1 hb1 hb2 hz3 hB3 hb3 hz4 hv4 hg4 hB4 hb4 hb5 hu hlt
  go_wp2_with fail
  obtain ⟨cs, hcs, _⟩ := hS
  have hg : (w5.alloc (.cells #[.int .u64 1] 43)).grownBy ((w5.alloc (.cells #[.int .u64 1] 43)).setRow w.heap.size #[.bool s, .slice A n c]) (some w.heap.size) := only_setRow (World.grownBy.refl _ _) _
  have hb6 := HB6.out
  have hu6 := HU.out
  rw [← HW6.out] at hb6 hu6
  exact ret_parts (cs := #[.bool s, .slice A n c]) rfl rfl rfl (hcs.setRow_same _) rfl ⟨_, _, rfl, hu6.kept hg (.inr (fun e => Nat.lt_irrefl _ (HNE.out _ e))), fun b hb => Nat.le_of_lt (HNE.out b hb), hb6.grown hg hb6.size (fun k hk => by injection hk with hk; omega)⟩

set_option maxRecDepth 100000 in
set_option maxHeartbeats 4000000 in
theorem parts_big {w : World} {g m : Nat} {s : Bool} {v : Value} (hz : Bi w g s v) (hv : Nt w v m) (hs : s = true → 0 < m) (hl : nw m ≤ 900) : Calls Tryz.prog 47 #[.iface 89 (.agg #[.pointer (some ⟨g, 0, none⟩)])] w (Parted w s m) := by
  have hsb : (s && decide (0 < m)) = s := by
    cases s with
    | false => rfl
    | true => simp [hs rfl]
  obtain ⟨w1, hw1⟩ : ∃ w1, w.alloc (.cells #[.bool false, .slice none 0 0] 24) = w1 := ⟨_, rfl⟩
  have hB1 : Blk w1 w.heap.size 24 #[.bool false, .slice none 0 0] := by rw [← hw1]; exact Blk.new w 24 _
  have hb1 : Below w.heap.size w w1 := by rw [← hw1]; exact (Below.refl _ _).alloc (Nat.le_refl _) _
  have HW : Hid (w.alloc (.cells #[.bool false, .slice none 0 0] 24) = w1) := hw1
  have hz1 : Bi w1 g s v := by rw [← hw1]; exact Blk.alloc hz _
  have hv1 : Nt w1 v m := by rw [← hw1]; exact Sl.alloc hv _
  clear hw1 hz hv
  go_enter Tryz.func47, Tryz.ntmps47
  go_wp2_with fail
  rw [HW.out]
  refine (val_big g w1).mono ?_
  rintro e w2 ⟨rfl, hb2⟩
  have hz4 : Bi w2 g s v := Blk.below' hz1 hb2
  have hv4 : Nt w2 v m := hv1.below hb2
  have hB4 : Blk w2 w.heap.size 24 #[.bool false, .slice none 0 0] := Blk.below' hB1 hb2
  have hb4 : Below w.heap.size w w2 := hb1.trans (hb2.mono hb1.size)
  go_wp2_with fail
  refine (number_c hz4 hv4 hl).mono ?_
  rintro e w5 ⟨u, rfl, hu, hb5⟩
  rw [hsb]
  obtain ⟨w6, hw6⟩ : ∃ w6, w5.alloc (.cells #[.int .u64 1] 43) = w6 := ⟨_, rfl⟩
  have HW6 : Hid (w5.alloc (.cells #[.int .u64 1] 43) = w6) := hw6
  have hB6 : Blk w6 w.heap.size 24 #[.bool false, .slice none 0 0] := by rw [← hw6]; exact (Blk.below' hB4 hb5).alloc _
  have hS : Slot (w5.alloc (.cells #[.int .u64 1] 43)) w.heap.size 24 2 := by rw [hw6]; exact hB6.slot
  have HB6 : Hid (Below w.heap.size w w6) := by rw [← hw6]; exact (hb4.trans (hb5.mono hb4.size)).alloc (Nat.le_trans hb4.size hb5.size) _
  have HNE : Hid (∀ b, u.ownBlock = some b → w.heap.size < b) := fun b hb => by
    have := (hu.lt b hb).1
    have := hB4.lt
    omega
  have HU : Hid (w6.ownsRow 0 43 1 u (nw m) (wl m (nw m))) := by rw [← hw6]; exact (own_weaken hu (Nat.zero_le _)).alloc _
  obtain ⟨A, n, c, rfl⟩ : ∃ A n c, u = .slice A n c := by
    rcases hu.2 with ⟨rfl, _⟩ | ⟨g, cap, cur, rfl, _⟩
    · exact ⟨_, _, _, rfl⟩
    · exact ⟨_, _, _, rfl⟩
  clear hw6 hB6 hB1 hb1 hb2 hz4 hv4 hB4 hb4 hb5 hu hz1 hv1 hs
  go_wp2_with fail
  obtain ⟨cs, hcs, _⟩ := hS
  have hg : (w5.alloc (.cells #[.int .u64 1] 43)).grownBy ((w5.alloc (.cells #[.int .u64 1] 43)).setRow w.heap.size #[.bool s, .slice A n c]) (some w.heap.size) := only_setRow (World.grownBy.refl _ _) _
  have hb6 := HB6.out
  have hu6 := HU.out
  rw [← HW6.out] at hb6 hu6
  exact ret_parts (cs := #[.bool s, .slice A n c]) rfl rfl rfl (hcs.setRow_same _) rfl ⟨_, _, rfl, hu6.kept hg (.inr (fun e => Nat.lt_irrefl _ (HNE.out _ e))), fun b hb => Nat.le_of_lt (HNE.out b hb), hb6.grown hg hb6.size (fun k hk => by injection hk with hk; omega)⟩

theorem parts_c {w : World} {x : Value} {m : Nat} {s : Bool} (h : Cv w x s m) (hs : s = true → 0 < m) (hl : nw m ≤ 900) : Calls Tryz.prog 47 #[x] w (Parted w s m) := by
  rcases h with ⟨h1, rfl⟩ | ⟨_, g, v, rfl, hz, hv⟩
  · exact parts_small h1 hs hl
  · exact parts_big hz hv hs hl
end Wa
end Go.Proofs.YtdpnoaaeplgdjaaGreatDoor
