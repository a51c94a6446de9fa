/-
  THE WALK OF addVW and subVW, behind the first word of a row.
-/
import Derived.Test.YtdpnoaaeplgdjaaGreatDoorAd
import Derived.LaidEqlPtr
namespace Go.Proofs.YtdpnoaaeplgdjaaGreatDoor
open Go.RowKit
namespace Wa

/-- Block g is a row of words. -/
def RowB (w : World) (g : Nat) : Prop := ∃ cur, w.heap[g]? = some (.cells cur 170 (0, 0))
theorem RowB_setCell (w : World) (a : Addr) (u : Value) (g : Nat) : RowB (w.setCell a u) g = RowB w g := by
  unfold RowB World.setCell
  simp only [Array.getElem?_modify]
  by_cases h : a.block = g
  · subst h
    rw [if_pos rfl]
    cases hq : w.heap[a.block]? with
    | none => simp
    | some o =>
      cases o with
      | cells c e f =>
        simp only [Option.map_some, Option.some.injEq, Obj.cells.injEq]
        exact propext ⟨fun ⟨_, _, h1, h2⟩ => ⟨c, rfl, h1, h2⟩, fun ⟨_, _, h1, h2⟩ => ⟨_, rfl, h1, h2⟩⟩
      | _ => simp
  · rw [if_neg h]
theorem RowB_drew (w : World) (g : Nat) : RowB w.drew g = RowB w g := propext Iff.rfl
theorem RowB_drewN (w : World) (n g : Nat) : RowB (w.drewN n) g = RowB w g := propext Iff.rfl
theorem Sl.rowB {w : World} {g n cap : Nat} {xs : List Value} (h : Sl w (.slice (some ⟨g, 0, none⟩) n cap) n xs) : RowB w g := by
  rcases h.form with ⟨h1, _⟩ | ⟨g', c, cur, h1, h2, _⟩
  · cases h1
  · injection h1 with e1
    injection e1 with e1
    injection e1 with e1
    subst e1
    exact ⟨cur, h2⟩
theorem und243 : Tryz.prog.underlying 243 = some (.pointer 170) := by kernel_rfl
theorem neq_rows {w : World} {g h o o' : Nat} (hne : g ≠ h) (hg : RowB w g) (hh : RowB w h) : (binOp .neq 243 (.pointer (some ⟨g, o, none⟩)) (.pointer (some ⟨h, o', none⟩))).run Tryz.prog w = .ok (.bool true) w := by
  obtain ⟨i, hi, _, hs, _⟩ := info_parts info170
  obtain ⟨c1, h1⟩ := hg
  obtain ⟨c2, h2⟩ := hh
  have hd : ∀ d : Nat, (Op.equalIn (d + 1) 243 (.pointer (some ⟨g, o, none⟩)) (.pointer (some ⟨h, o', none⟩))).run Tryz.prog w = .ok false w := fun d => by
    simp [Op.equalIn, run_underlying und243, sizeOf, typeInfo, hi, hs, run_sameAddr_other w (a := ⟨g, o, none⟩) (b := ⟨h, o', none⟩) (fun e => hne (by injection e)) h1 h2]
  simp only [binOp]
  simp [Op.equal, Op.maxDepth, hd 9999]
attribute [local go_sem] neq_rows RowB_setCell RowB_drew RowB_drewN

/-- A world that differs in its draws alone. -/
theorem grown_like {w w1 w2 : World} {r : Option Nat} (h : w.grownBy w1 r) (h1 : w2.heap = w1.heap) (h2 : w2.tape = w1.tape) (h3 : w2.os = w1.os) (h4 : w2.output = w1.output) : w.grownBy w2 r :=
  ⟨h3.trans h.os, h2.trans h.tape, h4.trans h.output, by rw [h1]; exact h.size, fun k hk hne => by rw [h1]; exact h.block k hk hne⟩
theorem grown_setCell {w w1 : World} {g o : Nat} {u : Value} (h : w.grownBy w1 (some g)) : w.grownBy (w1.setCell ⟨g, o, none⟩ u) (some g) := grown_setCells g [u] o w1 h

/-- Where the carry stops: one word stored, the others copied. -/
theorem stopped {wr : World} {g k cap n t X u : Nat} {ys : List Value} (hY : Sl wr (.slice (some ⟨g, 0, none⟩) k cap) k ys) (h0 : ∀ j, 1 ≤ j → j < t → ys[j]? = some (.int .u64 ((wo (X + 1) j : Nat) : Int))) (h1 : 1 ≤ t) (ht : t ≤ n) (hk : n < k)
    (hu : u = wo (X + 1) t) (hno : ¬ ca X (t + 1)) : ∃ ys', Sl ((wr.setCell ⟨g, t, none⟩ (.int .u64 (u : Int))).setCells g (t + 1) ((wl X (n + 1)).drop (t + 1))) (.slice (some ⟨g, 0, none⟩) k cap) k ys' ∧ ys'[0]? = ys[0]? ∧
      ∀ j, 1 ≤ j → j ≤ n → ys'[j]? = some (.int .u64 ((wo (X + 1) j : Nat) : Int)) := by
  have hl : ((wl X (n + 1)).drop (t + 1)).length = n - t := by rw [List.length_drop, wl_len]; omega
  obtain ⟨zs, h2, h3⟩ := Sl.sets ((wl X (n + 1)).drop (t + 1)) (t + 1) _ _ (hY.set t (.int .u64 (u : Int))).1 (by rw [hl]; omega)
  refine ⟨zs, h2, ?_, fun j hj1 hj2 => ?_⟩
  · rw [h3 0, if_neg (by omega), List.getElem?_set, if_neg (by omega)]
  · rw [h3 j, hl]
    by_cases c : t + 1 ≤ j
    · rw [if_pos (by omega), List.getElem?_drop, show t + 1 + (j - (t + 1)) = j from by omega, wl_at _ _ _ (by omega), add1_no X j (ca_no X (t + 1) j hno c)]
    · rw [if_neg (by omega), List.getElem?_set]
      by_cases c2 : t = j
      · subst c2
        rw [if_pos rfl, if_pos (by rw [hY.len]; omega), hu]
      · rw [if_neg c2, h0 j hj1 (by omega)]

theorem Sl.like {w w2 : World} {v : Value} {n : Nat} {xs : List Value} (h : Sl w v n xs) (e : w2.heap = w.heap) : Sl w2 v n xs := by
  refine ⟨h.1, ?_⟩
  rcases h.2 with h2 | ⟨g, cap, cur, h2, h3, h4, h5⟩
  · exact .inl h2
  · exact .inr ⟨g, cap, cur, h2, h3, by rw [e]; exact h4, h5⟩
theorem setCells_heap (g : Nat) : ∀ (vs : List Value) (o : Nat) (w1 w2 : World), w2.heap = w1.heap → (w2.setCells g o vs).heap = (w1.setCells g o vs).heap
  | [], _, _, _, h => h
  | u :: vs, o, w1, w2, h => setCells_heap g vs (o + 1) _ _ (by simp only [World.setCell, h])
theorem setCells_rest (g : Nat) : ∀ (vs : List Value) (o : Nat) (w : World), (w.setCells g o vs).tape = w.tape ∧ (w.setCells g o vs).os = w.os ∧ (w.setCells g o vs).output = w.output
  | [], _, _ => ⟨rfl, rfl, rfl⟩
  | u :: vs, o, w => setCells_rest g vs (o + 1) (w.setCell ⟨g, o, none⟩ u)
theorem grown_sets {w w1 w2 : World} {g : Nat} (h : w.grownBy w1 (some g)) (e : w2.heap = w1.heap) (h2 : w2.tape = w1.tape) (h3 : w2.os = w1.os) (h4 : w2.output = w1.output) (vs : List Value) (o : Nat) : w.grownBy (w2.setCells g o vs) (some g) :=
  grown_setCells g vs o w2 (grown_like h e h2 h3 h4)
theorem addr_add (h t j : Nat) : (⟨h, t, none⟩ : Addr).add j = ⟨h, t + j, none⟩ := by unfold Addr.add; split <;> simp_all
theorem wl_one (x n : Nat) : ∀ v ∈ wl x n, v.oneCell' = true := by
  intro v hv
  obtain ⟨j, _, rfl⟩ := List.mem_map.1 hv
  rfl
/-- 'copy(z[T:], x[T:])' of two rows. -/
theorem wpList_copy_tail {w : World} {ops : Array Oper} {rest : List Oper} {o : Oper} {a : Act} {Q : Exit → Act → World → Prop} (hgd : o.guard = none) (t : TypeId) (ht : Tryz.prog.underlying t = some (.slice 170)) (s x : Operand)
    (hop : o.op = .call { callee := .builtin .copy, args := #[s, x], argTypes := #[t, t] }) {g h k cap N ch T dl dc sl sc : Nat} {zs xs : List Value} (hZ : Sl w (.slice (some ⟨g, 0, none⟩) k cap) k zs) (hX : Sl w (.slice (some ⟨h, 0, none⟩) N ch) N xs)
    (hs : a.eval s = .slice (some ⟨g, T, none⟩) dl dc) (hx : a.eval x = .slice (some ⟨h, T, none⟩) sl sc) (hdl : dl = N - T) (hsl : sl = N - T) (hT : T ≤ N) (hk : N ≤ k) (h1 : ∀ v ∈ xs, v.oneCell' = true)
    (hK : wpList Tryz.prog ops Q rest (a.put o.dst (goInt (xs.drop T).length)) (w.setCells g T (xs.drop T))) : wpList Tryz.prog ops Q (o :: rest) a w := by
  have hl : (xs.drop T).length = N - T := by rw [List.length_drop, hX.len]
  refine wpList_copy_words hgd t ht s x hop g T dl dc ⟨h, T, none⟩ sl sc (xs.drop T) hs hx (by rw [hl, hdl, hsl]; exact (Nat.min_self _).symm) ?_ ?_ ?_ (fun v hv => h1 v (List.mem_of_mem_drop hv)) hK
  · intro j v hj
    rw [addr_add]
    rw [List.getElem?_drop] at hj
    have : T + j < N := by
      rcases Nat.lt_or_ge (T + j) N with c | c
      · exact c
      · rw [List.getElem?_eq_none (by rw [hX.len]; exact c)] at hj; cases hj
    rw [hX.cell (T + j) this, hj]
  · intro j hj
    rw [hl] at hj
    rw [hZ.cell (T + j) (by omega), List.getElem?_eq_getElem (by rw [hZ.len]; omega)]
    rfl
  · intro j hj
    exact hZ.frozen (T + j)

set_option maxRecDepth 100000 in
set_option maxHeartbeats 8000000 in
theorem addVW_c {w : World} {g h k n cap cz cx ch X c : Nat} {zs : List Value} (hgh : g ≠ h) (hZ : Sl w (.slice (some ⟨g, 0, none⟩) k cap) k zs) (hX : Sl w (.slice (some ⟨h, 0, none⟩) (n + 1) ch) (n + 1) (wl X (n + 1)))
    (hn : 1 ≤ n) (hn2 : n ≤ 1000) (hk : n < k) (hcz : n ≤ cz) (hcx : n ≤ cx) (hc : (c = 1 ∧ ca X 1) ∨ (c = 0 ∧ ¬ ca X 1)) :
    Calls Tryz.prog 195 #[.slice (some ⟨g, 1, none⟩) n cz, .slice (some ⟨h, 1, none⟩) n cx, .int .u64 (c : Int)] w fun e w' =>
      ∃ d : Nat, e = .returned (.int .u64 (d : Int)) ∧ ((d = 1 ∧ ca X (n + 1)) ∨ (d = 0 ∧ ¬ ca X (n + 1))) ∧ w.grownBy w' (some g) ∧
        ∃ ys, Sl w' (.slice (some ⟨g, 0, none⟩) k cap) k ys ∧ ys[0]? = zs[0]? ∧ ∀ j, 1 ≤ j → j ≤ n → ys[j]? = some (.int .u64 ((wo (X + 1) j : Nat) : Int)) := by
  have hzc : ∃ z0, w.cell? ⟨g, 1, none⟩ = some z0 := ⟨zs[1]'(by rw [hZ.len]; omega), by rw [hZ.cell 1 (by omega), List.getElem?_eq_getElem]⟩
  obtain ⟨z0, hz⟩ := hzc
  have hf := hZ.frozen 1
  have hx := hX.cell 1 (by omega)
  rw [wl_at _ _ _ (by omega)] at hx
  have hrg := hZ.rowB
  have hrh := hX.rowB
  have HZ : Hid (Sl w (.slice (some ⟨g, 0, none⟩) k cap) k zs) := hZ
  have HX : Hid (Sl w (.slice (some ⟨h, 0, none⟩) (n + 1) ch) (n + 1) (wl X (n + 1))) := hX
  clear hZ hX
  -- where the carry stops at once
  by_cases hs : ca X 2
  · obtain ⟨hc1, hx1⟩ := (ca_succ X 1).1 hs
    have hc2 : c = 1 := by
      rcases hc with ⟨h1, _⟩ | ⟨_, h1⟩
      · exact h1
      · exact absurd hc1 h1
    subst hc2
    have hb := bitsAdd1 (wo X 1)
    rw [hx1, show (18446744073709551616 % 18446744073709551616 : Nat) = 0 from rfl, show (18446744073709551616 / 18446744073709551616 : Nat) = 1 from rfl, show ((0 : Nat) : Int) = 0 from rfl, show ((1 : Nat) : Int) = 1 from rfl] at hb
    rw [show ((1 : Nat) : Int) = 1 from rfl]
    have hw1 : wo (X + 1) 1 = 0 := by rw [add1_ca X 1 hc1, hx1]
    obtain ⟨x1, hx2⟩ : ∃ x1 : Nat, wo X 1 = x1 := ⟨_, rfl⟩
    rw [hx2] at hb hx
    have HB : Hid (∀ w, Calls Tryz.prog 249 #[.int .u64 (x1 : Int), .int .u64 1, .int .u64 0] w fun e w' => e = .returned (.tuple #[.int .u64 0, .int .u64 1]) ∧ w' = w) := hb
    have HS : Hid (ca X 2) := hs
    have HW1 : Hid (wo (X + 1) 1 = 0) := hw1
    clear hb hs hw1 hx1 hx2 hc hc1
    have q0 : ¬ ((n : Int) = 0) := by omega
    go_enter Tryz.func195, Tryz.ntmps195
    go_wp2_with (go_at_call 249; refine (HB.out _).mono ?_; rintro e w1 ⟨rfl, rfl⟩)
    go_loopg [9] (n + 1) (fun gk s9 wx => ∃ i : Nat, s9 = .int .i64 (i : Int) ∧ 1 ≤ i ∧ i ≤ n ∧ n < gk + i ∧ Hid (ca X (i + 1)) ∧ (∃ ys, Hid (Sl wx (.slice (some ⟨g, 0, none⟩) k cap) k ys) ∧ Hid (ys[0]? = zs[0]?) ∧
      Hid (∀ j, 1 ≤ j → j ≤ i → ys[j]? = some (.int .u64 ((wo (X + 1) j : Nat) : Int)))) ∧ Hid (w1.grownBy wx (some g)))
    case atStart =>
      refine ⟨1, rfl, Nat.le_refl _, hn, by omega, HS, ⟨_, (HZ.out.set 1 (.int .u64 0)).1, ?_, ?_⟩, grown_setCell (World.grownBy.refl _ _)⟩
      · show (zs.set 1 _)[0]? = zs[0]?
        rw [List.getElem?_set, if_neg (by omega)]
      · intro j h1 h2
        have : j = 1 := by omega
        subst this
        rw [List.getElem?_set, if_pos rfl, if_pos (by rw [HZ.out.len]; omega), HW1.out]
        rfl
    case round =>
      obtain ⟨i, rfl, hi1, hin, hgk, HC, ⟨ys, HY, HY0, HYj⟩, HG⟩ := hrel
      have hgh' := hgh
      by_cases hlt : i < n
      · have HXr : Hid (Sl wr (.slice (some ⟨h, 0, none⟩) (n + 1) ch) (n + 1) (wl X (n + 1))) := HX.out.kept HG.out (.inr (fun e => hgh (Option.some.inj e).symm))
        have rg := HY.out.rowB
        have rh := HXr.out.rowB
        have cx1 := HXr.out.cell (1 + i) (by omega)
        rw [wl_at _ _ _ (by omega)] at cx1
        have cf := HY.out.frozen (1 + i)
        obtain ⟨zi, cz1⟩ : ∃ zi, wr.cell? ⟨g, 1 + i, none⟩ = some zi := ⟨ys[1 + i]'(by rw [HY.out.len]; omega), by rw [HY.out.cell (1 + i) (by omega), List.getElem?_eq_getElem]⟩
        obtain ⟨xi, hxi⟩ : ∃ xi : Nat, wo X (1 + i) = xi := ⟨_, rfl⟩
        have hxlt := wo_lt X (1 + i)
        rw [hxi] at cx1 hxlt
        have p1 : (i : Int) < (n : Int) := by omega
        have HXI : Hid (wo X (1 + i) = xi) := hxi
        clear hx hz hf hrg hrh hxi
        by_cases hm : xi = 18446744073709551615
        · subst hm
          obtain ⟨g', rfl⟩ : ∃ g', gk = g' + 1 := ⟨gk - 1, by omega⟩
          go_wp2_with fail
          have HC2 : ca X (i + 1 + 1) := (ca_succ X (i + 1)).2 ⟨HC.out, by rw [Nat.add_comm i 1, HXI.out]⟩
          have hw : wo (X + 1) (1 + i) = 0 := by rw [add1_ca X (1 + i) (by rw [Nat.add_comm 1 i]; exact HC.out), HXI.out]
          go_roundg g'
          case measure => omega
          case rel =>
            refine ⟨i + 1, congrArg _ (by omega), by omega, by omega, by omega, HC2, ⟨_, (HY.out.set (1 + i) (.int .u64 0)).1, ?_, ?_⟩, grown_setCell HG.out⟩
            · show (ys.set (1 + i) _)[0]? = zs[0]?
              rw [List.getElem?_set, if_neg (by omega)]
              exact HY0.out
            · intro j h1 h2
              rw [List.getElem?_set]
              by_cases c : 1 + i = j
              · subst c
                rw [if_pos rfl, if_pos (by rw [HY.out.len]; omega), hw]
                rfl
              · rw [if_neg c]
                exact HYj.out j h1 (by omega)
        · have q5 : ¬ ((xi : Int) = 18446744073709551615) := by omega
          by_cases hl : i + 1 = n
          · skip
            go_wp2_with fail
            go_quiet (fail)
            go_wp2_with fail
            have p2 : (i : Int) + 1 ≤ (n : Int) := by omega
            have p3 : (0 : Int) ≤ (i : Int) + 1 := by omega
            have p4 : ((i : Int) + 1).toNat = i + 1 := by omega
            have p5 : IntKind.i64.wrap ((i : Int) + 1) = (i : Int) + 1 := by rw [IntKind.wrap_i64]; omega
            refine wp_region_still_tail 8 rfl (by kernel_rfl) ?_
            simp only [List.take_succ_cons, List.take_zero, List.drop_succ_cons, List.drop_zero]
            repeat still_step
            refine wpStill_nil ?_
            refine wpList_copy_none rfl 158 und158 _ _ rfl _ _ _ _ _ _ rfl rfl rfl ?_
            go_wp2_with fail
            all_goals
              go_ret
              have hno : ¬ ca X (1 + i + 1) := fun h => hm (by have := ((ca_succ X (1 + i)).1 h).2; rw [HXI.out] at this; omega)
              have hw : xi + 1 = wo (X + 1) (1 + i) := by rw [add1_ca X (1 + i) (by rw [Nat.add_comm 1 i]; exact HC.out), HXI.out, Nat.mod_eq_of_lt (by omega)]
              have hY0 : ∀ j, 1 ≤ j → j < 1 + i → ys[j]? = some (.int .u64 ((wo (X + 1) j : Nat) : Int)) := fun j h1 h2 => HYj.out j h1 (by omega)
              have ec : ((xi + 1 : Nat) : Int) = (xi : Int) + 1 := by omega
              have HN : ¬ ca X (n + 1) := ca_no X (1 + i + 1) (n + 1) hno (by omega)
              obtain ⟨ys', y1, y2, y3⟩ := stopped (X := X) (t := 1 + i) HY.out hY0 (by omega) (by omega) hk hw hno
              rw [List.drop_of_length_le (by rw [wl_len]; omega), ec] at y1
              exact ⟨0, rfl, .inr ⟨rfl, HN⟩, (by refine grown_like (grown_setCell (o := 1 + i) (u := .int .u64 ((xi : Int) + 1)) HG.out) ?_ ?_ ?_ ?_ <;> rfl), ys', y1.like rfl, y2.trans HY0.out, y3⟩
          · have q1 : ¬ (cz = i + 1) := by omega
            have q2 : ¬ (cx = i + 1) := by omega
            go_wp2_with fail
            go_quiet (fail)
            go_wp2_with fail
            have p2 : (i : Int) + 1 ≤ (n : Int) := by omega
            have p3 : (0 : Int) ≤ (i : Int) + 1 := by omega
            have p4 : ((i : Int) + 1).toNat = i + 1 := by omega
            have p5 : IntKind.i64.wrap ((i : Int) + 1) = (i : Int) + 1 := by rw [IntKind.wrap_i64]; omega
            refine wp_region_still_tail 8 rfl (by kernel_rfl) ?_
            simp only [List.take_succ_cons, List.take_zero, List.drop_succ_cons, List.drop_zero]
            repeat still_step
            refine wpStill_nil ?_
            refine wpList_copy_tail rfl 158 und158 _ _ rfl (T := 1 + (i + 1)) ((HY.out.set (1 + i) (.int .u64 ((xi : Int) + 1))).1.like rfl) ((HXr.out.kept (grown_setCell (o := 1 + i) (u := .int .u64 ((xi : Int) + 1)) (World.grownBy.refl _ _)) (.inr (fun e => hgh (Option.some.inj e).symm))).like rfl) rfl rfl (by omega) (by omega) (by omega) (by omega) (wl_one _ _) ?_
            go_wp2_with fail
            go_ret
            have hno : ¬ ca X (1 + i + 1) := fun h => hm (by have := ((ca_succ X (1 + i)).1 h).2; rw [HXI.out] at this; omega)
            have hw : xi + 1 = wo (X + 1) (1 + i) := by rw [add1_ca X (1 + i) (by rw [Nat.add_comm 1 i]; exact HC.out), HXI.out, Nat.mod_eq_of_lt (by omega)]
            have hY0 : ∀ j, 1 ≤ j → j < 1 + i → ys[j]? = some (.int .u64 ((wo (X + 1) j : Nat) : Int)) := fun j h1 h2 => HYj.out j h1 (by omega)
            have ec : ((xi + 1 : Nat) : Int) = (xi : Int) + 1 := by omega
            have HN : ¬ ca X (n + 1) := ca_no X (1 + i + 1) (n + 1) hno (by omega)
            obtain ⟨ys', y1, y2, y3⟩ := stopped (X := X) (t := 1 + i) HY.out hY0 (by omega) (by omega) hk hw hno
            rw [ec] at y1
            exact ⟨0, rfl, .inr ⟨rfl, HN⟩, (by refine grown_sets (grown_setCell (o := 1 + i) (u := .int .u64 ((xi : Int) + 1)) HG.out) ?_ ?_ ?_ ?_ _ _ <;> rfl), ys', y1.like (setCells_heap g _ _ _ _ rfl), y2.trans HY0.out, y3⟩
      · have : i = n := by omega
        subst this
        clear hx hz hf hrg hrh
        go_wp2_with fail
        go_ret
        exact ⟨1, rfl, .inl ⟨rfl, HC.out⟩, HG.out, ys, HY.out, HY0.out, HYj.out⟩
  · -- word 1 takes the carry, if there is one
    have hsum : (wo X 1 + c) % 18446744073709551616 = wo (X + 1) 1 ∧ (wo X 1 + c) / 18446744073709551616 = 0 := by
      have hlt := wo_lt X 1
      rcases hc with ⟨rfl, h1⟩ | ⟨rfl, h1⟩
      · rw [add1_ca X 1 h1]
        have : ¬ wo X 1 + 1 = 18446744073709551616 := fun h2 => hs ((ca_succ X 1).2 ⟨h1, h2⟩)
        exact ⟨rfl, by omega⟩
      · rw [add1_no X 1 h1]
        exact ⟨by omega, by omega⟩
    have hb := bitsAdd (wo X 1) c 0 (by omega)
    rw [Nat.add_zero, hsum.1, hsum.2] at hb
    have e0 : ((0 : Nat) : Int) = 0 := rfl
    rw [e0] at hb
    obtain ⟨u, hu⟩ : ∃ u : Nat, wo (X + 1) 1 = u := ⟨_, rfl⟩
    obtain ⟨x1, hx1⟩ : ∃ x1 : Nat, wo X 1 = x1 := ⟨_, rfl⟩
    rw [hu, hx1] at hb
    rw [hx1] at hx
    have HB : Hid (∀ w, Calls Tryz.prog 249 #[.int .u64 (x1 : Int), .int .u64 (c : Int), .int .u64 0] w fun e w' => e = .returned (.tuple #[.int .u64 (u : Int), .int .u64 0]) ∧ w' = w) := hb
    have HU : Hid (wo (X + 1) 1 = u) := hu
    have HS : Hid (¬ ca X 2) := hs
    have hN : Hid (¬ ca X (n + 1)) := ca_no X 2 (n + 1) hs (by omega)
    clear hsum hb hu hx1 hs hc e0
    have q0 : ¬ ((n : Int) = 0) := by omega
    by_cases h1 : n = 1
    · subst h1
      go_enter Tryz.func195, Tryz.ntmps195
      go_wp2_with (go_at_call 249; refine (HB.out _).mono ?_; rintro e w1 ⟨rfl, rfl⟩)
      go_quiet (fail)
      go_wp2_with fail
      refine wp_region_still_tail 4 rfl (by kernel_rfl) ?_
      simp only [List.take_succ_cons, List.take_zero, List.drop_succ_cons, List.drop_zero]
      repeat still_step
      refine wpStill_nil ?_
      refine wpList_copy_none rfl 158 und158 _ _ rfl _ _ _ _ _ _ rfl rfl rfl ?_
      go_wp2_with fail
      all_goals
        go_ret
        obtain ⟨ys, y1, y2, y3⟩ := stopped (n := 1) (X := X) (t := 1) HZ.out (fun j h1 h2 => by omega) (Nat.le_refl _) (Nat.le_refl _) hk HU.out.symm HS.out
        rw [List.drop_of_length_le (by rw [wl_len]; exact Nat.le_refl _)] at y1
        exact ⟨0, rfl, .inr ⟨rfl, HS.out⟩, grown_like (grown_setCell (o := 1) (u := .int .u64 (u : Int)) (World.grownBy.refl _ _)) rfl rfl rfl rfl, ys, y1, y2, y3⟩
    · have q1 : ¬ (cz = 1) := by omega
      have q2 : ¬ (cx = 1) := by omega
      have q3 : (1 : Int) ≤ (n : Int) := by omega
      have HX2 : Hid (∀ u : Value, Sl (w.setCell ⟨g, 1, none⟩ u) (.slice (some ⟨h, 0, none⟩) (n + 1) ch) (n + 1) (wl X (n + 1))) :=
        fun u => HX.out.kept (grown_setCell (World.grownBy.refl _ _)) (.inr (fun e => hgh (Option.some.inj e).symm))
      go_enter Tryz.func195, Tryz.ntmps195
      go_wp2_with (go_at_call 249; refine (HB.out _).mono ?_; rintro e w1 ⟨rfl, rfl⟩)
      go_quiet (fail)
      go_wp2_with fail
      refine wp_region_still_tail 4 rfl (by kernel_rfl) ?_
      simp only [List.take_succ_cons, List.take_zero, List.drop_succ_cons, List.drop_zero]
      repeat still_step
      refine wpStill_nil ?_
      refine wpList_copy_tail rfl 158 und158 _ _ rfl (HZ.out.set 1 (.int .u64 (u : Int))).1 (HX2.out (.int .u64 (u : Int))) rfl rfl (by omega) (by omega) (by omega) (by omega) (wl_one _ _) ?_
      go_wp2_with fail
      go_ret
      obtain ⟨ys, y1, y2, y3⟩ := stopped (X := X) (t := 1) HZ.out (fun j h1 h2 => by omega) (Nat.le_refl _) hn hk HU.out.symm HS.out
      exact ⟨0, rfl, .inr ⟨rfl, hN.out⟩, (by refine grown_sets (grown_setCell (o := 1) (u := .int .u64 (u : Int)) (World.grownBy.refl _ _)) ?_ ?_ ?_ ?_ _ _ <;> rfl), ys, y1.like (setCells_heap g _ _ _ _ rfl), y2, y3⟩
end Wa
end Go.Proofs.YtdpnoaaeplgdjaaGreatDoor
