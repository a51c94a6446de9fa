/-
  THE WALK OF the thin package's plain, number, parts and told, of an integer.
-/
import Derived.Test.YtdpnoaaeplgdjaaGreatDoorOfMd
import Derived.Deep.LoopGhost
import Derived.Laws.AppendOwn
namespace Go.Proofs.YtdpnoaaeplgdjaaGreatDoor
open Go.RowKit Go.Proofs.YtdpnoaaeplgdjaaGreatDoorW.PrintWords Go.Proofs.YtdpnoaaeplgdjaaGreatDoorW.PrintMore
namespace Wa
open Rg Dg Sp

theorem und22 : Tryz.prog.underlying 22 = some (.slice 43) := by kernel_rfl
theorem inf43 : (Tryz.prog.info? 43).map (fun i => (i.zero, i.size, i.bytes)) = some (some (.int .u64 0), 1, 8) := by kernel_rfl

theorem nw_dlen (m : Nat) : nw m = (dlen m + 3) / 4 := by
  have h1 : ∀ n, nw m ≤ n ↔ (dlen m + 3) / 4 ≤ n := fun n => by
    rw [nw_le_iff]
    have h2 := dlen_le_iff m (4 * n)
    rw [Nat.pow_mul] at h2
    constructor
    · intro h
      have := h2.2 h
      omega
    · intro h
      exact h2.1 (by omega)
  have a := (h1 (nw m)).1 (Nat.le_refl _)
  have b := (h1 ((dlen m + 3) / 4)).2 (Nat.le_refl _)
  omega
/-- The words of a number, as the specification has them. -/
theorem wds_wl (m : Nat) : (wds m).map (Value.int .u64) = wl m (nw m) := by
  rw [nw_dlen]
  unfold wds
  refine wl_ext _ _ _ (by simp [wd]) fun j hj => ?_
  simp [wd, hj, wo, Nat.pow_mul]
theorem Us.of_own {w : World} {base : Nat} {v : Value} {m : Nat} (h : w.ownsRow base 43 1 v (nw m) (wl m (nw m))) : Us w v (wds m) := by
  have hl : (wds m).length = nw m := by rw [wds_len, nw_dlen]
  have h1 : w.ownsRow base 43 1 v (wds m).length (encs (Value.int .u64) (wds m)) := by
    have e : encs (Value.int .u64) (wds m) = wl m (nw m) := wds_wl m
    rw [e, hl]
    exact h
  have h2 : Kd.R (Kd.int .u64) 43 w base (fun _ => True) v (wds m) := Kd.R_of_own h1 (fun _ _ => trivial)
  have h3 := Kd.R_V (base' := base) h2
  obtain ⟨A, c, rfl⟩ := Kd.V_slice h3
  obtain ⟨_, h4, h5⟩ := Kd.V_reads' h3
  exact ⟨A, c, rfl, h4, h5⟩
theorem wl_succ (m i : Nat) : wl m (i + 1) = wl m i ++ [.int .u64 ((wo m i : Nat) : Int)] := by
  unfold wl
  rw [List.range_succ, List.map_append]
  rfl
theorem one_cell43 (w : World) (u : Value) : ∀ (j : Nat) (x : Value), [u][j]? = some x → (w.alloc (.cells #[u] 43)).cell? ((⟨w.heap.size, 0, none⟩ : Addr).add j) = some x := by
  intro j x hj
  match j, hj with
  | 0, hj => simp at hj; subst hj; simp [Addr.add]
theorem row_below {w w' : World} {B B' : Nat} {e : TypeId} {size : Nat} {v : Value} {n : Nat} {xs : List Value} (h : w.ownsRow B e size v n xs) (hb : Below B' w w') (hB : B' = w.heap.size) : w'.ownsRow B e size v n xs := by
  subst hB
  exact h.kept (row := none) ⟨hb.os, hb.tape, hb.output, hb.size, fun k hk _ => hb.block k hk⟩ (by cases v.ownBlock <;> simp)

set_option maxRecDepth 100000 in
set_option maxHeartbeats 8000000 in
theorem plain_c {w : World} {g m : Nat} {s : Bool} {v : Value} (h : Bi w g s v) (hv : Nt w v m) (hl : nw m ≤ 900) : Calls Tryz.prog 117 #[.pointer (some ⟨g, 0, none⟩)] w fun e w' => ∃ u, e = .returned u ∧ w'.ownsRow w.heap.size 43 1 u (nw m) (wl m (nw m)) ∧ Below w.heap.size w w' := by
  have c1 := h.cell 1
  simp only [List.getElem?_toArray, List.getElem?_cons_zero, List.getElem?_cons_succ] at c1
  obtain ⟨a, c, rfl, hac⟩ := Sl.nil_or hv
  have HV : Hid (Nt w (.slice a (nw m) c) m) := hv
  obtain ⟨i0, i43, hz0, hz1, hz2⟩ := info_parts inf43
  obtain ⟨n, hn⟩ : ∃ n, nw m = n := ⟨_, rfl⟩
  rw [hn] at c1 hl hac
  have HN : Hid (nw m = n) := hn
  clear h hv hn
  go_enter Tryz.func117, Tryz.ntmps117
  go_wp2
  go_loopg [3, 9] (n + 1) (fun gk s3 s9 wx => ∃ i : Nat, s9 = .int .i64 (i : Int) ∧ i ≤ n ∧ n < gk + i ∧ wx.ownsRow w.heap.size 43 1 s3 i (wl m i) ∧ Below w.heap.size w wx)
  case atStart => exact ⟨0, rfl, Nat.zero_le _, by omega, World.ownsRow_nil _ _ _ _, Below.refl _ _⟩
  case round =>
    obtain ⟨i, rfl, hin, hgk, hown, hbw⟩ := hrel
    by_cases hlt : i < n
    · have HVr : Hid (Nt wr (.slice a (nw m) c) m) := HV.out.below hbw
      obtain ⟨g2, c2, cur2, hv2, _⟩ := Sl.form_pos HVr.out (by rw [HN.out]; omega)
      obtain ⟨rfl, rfl⟩ : a = some ⟨g2, 0, none⟩ ∧ c = c2 := by injection hv2 with e1 e2 e3; exact ⟨e1, e3⟩
      clear hv2
      have cm := Sl.cell HVr.out i (by rw [HN.out]; exact hlt)
      rw [wl_at _ _ _ (by rw [HN.out]; exact hlt)] at cm
      obtain ⟨V, hV⟩ : ∃ V : Int, ((wo m i : Nat) : Int) = V := ⟨_, rfl⟩
      rw [hV] at cm
      have HVV : Hid (((wo m i : Nat) : Int) = V) := hV
      have p1 : (i : Int) < (n : Int) := by omega
      have hbs := hbw.size
      clear hV
      obtain ⟨g', rfl⟩ : ∃ g', gk = g' + 1 := ⟨gk - 1, by omega⟩
      go_wp2_with (at_builtin; refine wpList_append_own _ rfl _ _ 22 rfl w.heap.size 43 i0 (.int .u64 0) 1 8 und22 i43 hz0 hz1 hz2 rfl (by decide) _ _ _ rfl (hown.alloc _) ⟨wr.heap.size, 0, none⟩ 1 1 [.int .u64 V] rfl rfl (one_cell43 _ _) (by intro u hu; rw [List.mem_singleton.1 hu]; rfl) (by unfold maxLen; omega) (by omega) (by have h9 := hbw.size; simp; omega) ?_)
      intro v' w3 hown' hgrow _
      have hb3 : Below w.heap.size w w3 := by
        refine (hbw.alloc hbs _).grown hgrow (by simp; omega) fun k hk => (hown.lt k hk).1
      have hown3 : w3.ownsRow w.heap.size 43 1 v' (i + 1) (wl m (i + 1)) := by rw [wl_succ, HVV.out]; exact hown'
      clear hown' hgrow hown hbw
      go_wp2_with fail
      go_roundg g'
      case measure => omega
      case rel => exact ⟨i + 1, congrArg _ (by omega), by omega, by omega, hown3, hb3⟩
    · have hi : i = n := by omega
      subst hi
      have HO : Hid (wr.ownsRow w.heap.size 43 1 u3 (nw m) (wl m (nw m))) := by
        rw [HN.out]; exact hown
      have HBW : Hid (Below w.heap.size w wr) := hbw
      clear hown hbw
      go_wp2_with fail
      go_ret
      exact ⟨_, rfl, HO.out, HBW.out⟩
end Wa
end Go.Proofs.YtdpnoaaeplgdjaaGreatDoor
/-
  THE WALK OF the thin package's number, parts and told, of an integer.
-/
namespace Go.Proofs.YtdpnoaaeplgdjaaGreatDoor
open Go.RowKit Go.Proofs.YtdpnoaaeplgdjaaGreatDoorW.PrintWords Go.Proofs.YtdpnoaaeplgdjaaGreatDoorW.PrintMore
namespace Wa
open Rg Dg Sp

theorem size24 : (Tryz.prog.info? 24).map (·.size) = some 2 := by kernel_rfl
theorem und24 : Tryz.prog.underlying 24 = some (Tryz.prog.underlying 24).get! := by kernel_rfl
theorem exec_store24 {f : Operand → Value} {d : Option Tmp} {x y : Operand} {t' : TypeId} {pos : String} {af : Array Edge} {g : Option (Nat × Bool)} {w : World} (hx : SlotV w (f x) 24 2) (hy : AggV (f y) 2) :
    (execOp f ⟨d, .store 24 x y, t', pos, af, g⟩).run Tryz.prog w = .ok .skip (w.setRow (blockOf (f x)) (f y).cells) := exec_store size24 hx hy
attribute [local go_sem ↓] exec_store24

set_option maxRecDepth 100000 in
set_option maxHeartbeats 4000000 in
theorem sign_c {w : World} {g m : Nat} {s : Bool} {v : Value} (h : Bi w g s v) (hv : Nt w v m) : Calls Tryz.prog 180 #[.pointer (some ⟨g, 0, none⟩)] w fun e w' => ∃ r : Int, e = .returned (.int .i64 r) ∧ decide (r < 0) = (s && decide (0 < m)) ∧ w' = w := by
  have c0 := h.cell 0
  have c1 := h.cell 1
  simp only [List.getElem?_toArray, List.getElem?_cons_zero, List.getElem?_cons_succ] at c0 c1
  obtain ⟨a, c, rfl, hac⟩ := Sl.nil_or hv
  rcases Nat.eq_zero_or_pos m with h0 | h0
  · subst h0
    rw [nw_zero] at c1
    clear h hv hac
    go_enter Tryz.func180, Tryz.ntmps180
    go_wp2
    go_ret
    exact ⟨0, rfl, by cases s <;> rfl, rfl⟩
  · have hp := nw_pos m h0
    obtain ⟨n, hn⟩ : ∃ n, nw m = n := ⟨_, rfl⟩
    rw [hn] at c1 hp
    have q1 : ¬ ((n : Int) = 0) := by omega
    have hd : Hid (decide (0 < m) = true) := decide_eq_true h0
    clear h hv hn hac h0
    cases s with
    | false =>
      go_enter Tryz.func180, Tryz.ntmps180
      go_wp2
      go_ret
      exact ⟨1, rfl, rfl, rfl⟩
    | true =>
      go_enter Tryz.func180, Tryz.ntmps180
      go_wp2
      go_ret
      exact ⟨-1, rfl, by rw [hd.out]; rfl, rfl⟩

theorem ret24 {f : Func} {p : Tmp} {R : Ending → World → Prop} {a : Act} {w : World} (h : f.results = #[.cell p 24]) (hd : a.defers = []) {g : Nat} {cs : Array Value} (hp : a.tmps.getD p undef = .pointer (some ⟨g, 0, none⟩)) (hg : Blk w g 24 cs) (hs : cs.size = 2)
    (hR : R (.returned (.agg cs)) w) : bodyPost Tryz.prog f R .ret a w :=
  bodyPost_ret (results_cell_row h a.tmps w g 24 cs (0, 0) _ hp hg Tryz.underlying24 rfl (by rw [hs]; exact size24)) hd hR

set_option maxRecDepth 100000 in
set_option maxHeartbeats 4000000 in
theorem number_c {w : World} {g m : Nat} {s : Bool} {v : Value} (h : Bi w g s v) (hv : Nt w v m) (hl : nw m ≤ 900) : Calls Tryz.prog 114 #[.pointer (some ⟨g, 0, none⟩)] w fun e w' => ∃ u, e = .returned (.agg #[.bool (s && decide (0 < m)), u]) ∧ w'.ownsRow w.heap.size 43 1 u (nw m) (wl m (nw m)) ∧ Below w.heap.size w w' := by
  obtain ⟨w1, hw1⟩ : ∃ w1, w.alloc (.cells #[.bool false, .slice none 0 0] 24) = w1 := ⟨_, rfl⟩
  have hz1 : Bi w1 g s v := by rw [← hw1]; exact Blk.alloc h _
  have hv1 : Nt w1 v m := by rw [← hw1]; exact Sl.alloc hv _
  have hB1 : Blk w1 w.heap.size 24 #[.bool false, .slice none 0 0] := by rw [← hw1]; exact Blk.new w 24 _
  have hb1 : Below w.heap.size w w1 := by rw [← hw1]; exact (Below.refl _ _).alloc (Nat.le_refl _) _
  have HW : Hid (w.alloc (.cells #[.bool false, .slice none 0 0] 24) = w1) := hw1
  clear hw1 h hv
  go_enter Tryz.func114, Tryz.ntmps114
  go_wp2_with fail
  rw [HW.out]
  refine (sign_c hz1 hv1).mono ?_
  rintro e w2 ⟨r, rfl, hr, rfl⟩
  have HR : Hid (decide (r < 0) = (s && decide (0 < m))) := hr
  clear hr
  go_wp2_with fail
  refine (plain_c hz1 hv1 hl).mono ?_
  rintro e w3 ⟨u, rfl, hu, hb3⟩
  have hS : Slot w3 w.heap.size 24 2 := (Blk.below' hB1 hb3).slot
  have HB3 : Hid (Below w.heap.size w w3) := hb1.trans (hb3.mono hb1.size)
  have hlt : w.heap.size < w2.heap.size := hB1.lt
  have HNE : Hid (u.ownBlock ≠ some w.heap.size) := fun e => by
    have := (hu.lt _ e).1
    omega
  have HU : Hid (w3.ownsRow w2.heap.size 43 1 u (nw m) (wl m (nw m))) := hu
  have HL : Hid (w.heap.size ≤ w2.heap.size) := Nat.le_of_lt hlt
  obtain ⟨A, n, c, rfl⟩ : ∃ A n c, u = .slice A n c := by
    rcases hu.2 with ⟨rfl, _⟩ | ⟨g, cap, cur, rfl, _⟩
    · exact ⟨_, _, _, rfl⟩
    · exact ⟨_, _, _, rfl⟩
  clear hb3 hb1 hB1 hz1 hv1 hu hlt
  go_wp2_with fail
  obtain ⟨cs, hcs, _⟩ := hS
  have hg : w3.grownBy (w3.setRow w.heap.size #[.bool (decide (r < 0)), .slice A n c]) (some w.heap.size) := only_setRow (World.grownBy.refl _ _) _
  refine ret24 (cs := #[.bool (decide (r < 0)), .slice A n c]) rfl rfl rfl (hcs.setRow_same _) rfl ⟨_, by rw [HR.out], ?_, HB3.out.grown hg HB3.out.size (fun k hk => by injection hk with hk; omega)⟩
  have h9 := World.ownsRow.kept HU.out hg (.inr HNE.out)
  exact own_weaken h9 HL.out
end Wa
end Go.Proofs.YtdpnoaaeplgdjaaGreatDoor
