/-
  THE WALK OF package spec's IsNumber and Integer, of what the code tells of an integer.
-/
import Derived.Test.YtdpnoaaeplgdjaaGreatDoorRj
import Derived.Test.YtdpnoaaeplgdjaaGreatDoorOfMd
namespace Go.Proofs.YtdpnoaaeplgdjaaGreatDoor
open Go.RowKit Go.Proofs.YtdpnoaaeplgdjaaGreatDoorW.PrintWords Go.Proofs.YtdpnoaaeplgdjaaGreatDoorW.PrintMore
namespace Sp
open Rg Dg

theorem Us.form {w : World} {v : Value} {l : List Int} (h : Us w v l) : ∃ A n c, v = .slice A n c := by
  obtain ⟨A, c, rfl, _⟩ := h
  exact ⟨_, _, _, rfl⟩
theorem ofw_c {w : World} {v : Value} {a : Nat} (ha : dlen a ≤ 900) (h : Us w v (wds a)) : Calls Tryz.prog 8 #[v] w fun e w' => ∃ r, e = .returned r ∧ Ds w' r a ∧ Below w.heap.size w w' := by
  obtain ⟨ws, hz, hw, hv, hl⟩ := zi_wds a
  rw [← hz] at h
  have := of_c hw (by omega) h
  rwa [hv] at this

set_option maxRecDepth 100000 in
set_option maxHeartbeats 4000000 in
theorem isNumber_c {w : World} {s : Bool} {u v : Value} {a : Nat} (hs : s = true → 0 < a) (ha : dlen a ≤ 900) (h1 : Us w u (wds a)) (h2 : Ds w v a) :
    Calls Tryz.prog 43 #[.agg #[.bool s, u], .bool s, v] w fun e w' => e = .returned (.bool true) ∧ Below w.heap.size w w' := by
  obtain ⟨A, n, c, rfl⟩ := h1.form
  obtain ⟨B, d, rfl⟩ := h2.form
  have hb : Below w.heap.size w (w.alloc (.cells #[.bool s, .slice A n c] 24)) := (Below.refl _ _).alloc (Nat.le_refl _) _
  have HH := hasWords_c ha (h1.below hb) (h2.below hb)
  obtain ⟨W, hW⟩ : ∃ W, w.alloc (.cells #[.bool s, .slice A n c] 24) = W := ⟨_, rfl⟩
  have HW : Hid (w.alloc (.cells #[.bool s, .slice A n c] 24) = W) := hW
  have hB : Blk W w.heap.size 24 #[.bool s, .slice A n c] := by rw [← hW]; exact Blk.new _ _ _
  rw [hW] at HH hb
  have HC : Hid (Calls Tryz.prog 112 #[.slice A n c, .slice B (dlen a) d] W fun e w' => e = .returned (.bool true) ∧ Below W.heap.size W w') := HH
  have HB : Hid (Below w.heap.size w W) := hb
  have hp : s = true → 0 < dlen a := fun h => dlen_pos a (hs h)
  obtain ⟨m, hm⟩ : ∃ m, dlen a = m := ⟨_, rfl⟩
  rw [hm] at HC hp ⊢
  clear HH hW hb hs ha h1 h2 hm
  have hc0 := hB.cell 0
  have hc1 := hB.cell 1
  simp only [List.getElem?_toArray, List.getElem?_cons_zero, List.getElem?_cons_succ] at hc0 hc1
  clear hB
  cases s with
  | true =>
    have hp1 := hp rfl
    have hp2 : decide ((0 : Int) < (m : Int)) = true := decide_eq_true (by omega)
    clear hp
    go_enter Tryz.func43, Tryz.ntmps43
    go_upto_region 1 with fail
    rw [HW.out]
    go_wp2_with fail
    refine HC.out.mono ?_
    rintro e w2 ⟨rfl, hb2⟩
    go_wp2_with fail
    go_ret
    exact ⟨rfl, HB.out.trans (hb2.mono HB.out.size)⟩
  | false =>
    clear hp
    go_enter Tryz.func43, Tryz.ntmps43
    go_upto_region 1 with fail
    rw [HW.out]
    go_wp2_with fail
    refine HC.out.mono ?_
    rintro e w2 ⟨rfl, hb2⟩
    go_wp2_with fail
    go_ret
    exact ⟨rfl, HB.out.trans (hb2.mono HB.out.size)⟩

theorem ret30b {f : Func} {p q : Tmp} {R : Ending → World → Prop} {a : Act} {w : World} (h : f.results = #[.cell p 30, .tmp q]) (hd : a.defers = []) {g : Nat} {cs : Array Value} {u : Value} (hp : a.tmps.getD p undef = .pointer (some ⟨g, 0, none⟩)) (hq : a.tmps.getD q undef = u)
    (hg : Blk w g 30 cs) (hs : cs.size = 3) (hR : R (.returned (.tuple #[.agg cs, u])) w) : bodyPost Tryz.prog f R .ret a w := by
  refine bodyPost_ret ?_ hd hR
  have hp' : a.tmps[p]?.getD undef = .pointer (some ⟨g, 0, none⟩) := by simpa using hp
  have hq' : a.tmps[q]?.getD undef = u := by simpa using hq
  simp [results, h, hp', hq', asAddr, run_loadVar_row w g 30 30 cs (0, 0) _ hg Tryz.underlying30 rfl (by rw [hs]; exact size30)]

theorem Ra.num {w : World} {x y : Value} {q p : Bool} {a : Nat} (h : Ra w (.agg #[.bool q, x, y]) p a) : Ds w x a := by
  obtain ⟨x', y', e, hx, _⟩ := h
  injection e with e
  injection e with e
  injection e with _ e
  injection e with e _
  subst e
  exact hx

/-- A variable of the call's own that is made while a region runs: what holds where its value is about to be laid. -/
def Fin (w1 w : World) (g : Nat) : Prop := w1.heap.size ≤ g ∧ Blk w g 30 r0 ∧ Below w1.heap.size w1 w
theorem Fin.new {w1 X : World} (h : Below w1.heap.size w1 X) : Fin w1 (X.alloc (.cells r0 30)) X.heap.size := ⟨h.size, Blk.new X 30 r0, h.alloc h.size _⟩
theorem Fin.drew {w1 X : World} {g : Nat} (h : Fin w1 X g) : Fin w1 X.drew g := ⟨h.1, h.2.1.drew, h.2.2.drew⟩
theorem Fin.below {w1 X Y : World} {g : Nat} (h : Fin w1 X g) (hb : Below X.heap.size X Y) : Fin w1 Y g := ⟨h.1, h.2.1.below' hb, Rg.below_step h.2.2 hb⟩
theorem Fin.done {w1 X : World} {g : Nat} {cells : Array Value} {v : Value} {p : Bool} {a : Nat} (h : Fin w1 X g) (hv : Ra X v p a) : w1.heap.size ≤ g ∧ Blk (X.setRow g cells) g 30 cells ∧ Below w1.heap.size w1 (X.setRow g cells) ∧ Ra (X.setRow g cells) v p a :=
  ⟨h.1, h.2.1.setRow_same _, below_row h.2.2 h.1 _, hv.setRow h.2.1 _⟩

set_option maxRecDepth 100000 in
set_option maxHeartbeats 8000000 in
theorem integer_c {w : World} {s : Bool} {u : Value} {a : Nat} (hs : s = true → 0 < a) (ha : dlen a ≤ 900) (h : Us w u (wds a)) :
    Calls Tryz.prog 25 #[.agg (Wa.iv s u)] w fun e w' => ∃ r, e = .returned (.tuple #[r, .bool true]) ∧ Ra w' r s a ∧ Below w.heap.size w w' := by
  obtain ⟨A, n, c, rfl⟩ := h.form
  obtain ⟨w1, hw1⟩ : ∃ w1, (w.alloc (.cells (Wa.iv s (.slice A n c)) 41)).alloc (.cells r0 30) = w1 := ⟨_, rfl⟩
  have HW : Hid ((w.alloc (.cells (Wa.iv s (.slice A n c)) 41)).alloc (.cells r0 30) = w1) := hw1
  have hB1 : Blk w1 w.heap.size 41 (Wa.iv s (.slice A n c)) := by rw [← hw1]; exact (Blk.new w 41 _).alloc _
  have hB2 : Blk w1 (w.heap.size + 1) 30 r0 := by
    rw [← hw1]
    have := Blk.new (w.alloc (.cells (Wa.iv s (.slice A n c)) 41)) 30 r0
    simpa using this
  have hb : Below w.heap.size w w1 := by rw [← hw1]; exact ((Below.refl _ _).alloc (Nat.le_refl _) _).alloc (by simp) _
  have HB1 : Hid (Blk w1 w.heap.size 41 (Wa.iv s (.slice A n c))) := hB1
  have HB2 : Hid (Blk w1 (w.heap.size + 1) 30 r0) := hB2
  have HH : Hid (Below w.heap.size w w1) := hb
  have HU : Hid (Us w1 (.slice A n c) (wds a)) := h.below hb
  have HA : Hid (dlen a ≤ 900) := ha
  have HS : Hid (s = true → 0 < a) := hs
  have HSS : Hid ((s && decide (0 < a)) = s) := by
    cases s with
    | true => show (true && decide (0 < a)) = true; rw [decide_eq_true (hs rfl)]; rfl
    | false => rfl
  have c1 := hB1.cells
  clear hw1 hB1 hB2 hb h ha hs
  go_enter Tryz.func25, Tryz.ntmps25
  go_upto_region 1 with fail
  rw [HW.out]
  go_upto_region 3 with fail
  clear c1
  have HC : Hid (Below w1.heap.size w1 w1.drew) := ⟨rfl, rfl, rfl, Nat.le_refl _, fun _ _ => rfl⟩
  go_cut [4] (fun s4 wx => ∃ g X nx cx Y ny cy, s4 = .pointer (some ⟨g, 0, none⟩) ∧ Hid (w1.heap.size ≤ g) ∧ Hid (Blk wx g 30 #[.bool s, .slice X nx cx, .slice Y ny cy]) ∧ Hid (Below w1.heap.size w1 wx) ∧ Hid (Ra wx (.agg #[.bool s, .slice X nx cx, .slice Y ny cy]) s a))
  case first =>
    go_region_held3 (fun w' => w'.cell? ⟨w.heap.size, 3, none⟩ = some (.bool s) ∧ w'.cell? ⟨w.heap.size, 4, none⟩ = some (.slice A n c))
      (first
        | (exact ⟨(Blk.below' HB1.out HC.out).cell 3, (Blk.below' HB1.out HC.out).cell 4⟩)
        | (exact ⟨(Blk.below' HB1.out (HC.out.alloc HC.out.size _)).cell 3, (Blk.below' HB1.out (HC.out.alloc HC.out.size _)).cell 4⟩)
        | (exact ⟨(Blk.below' HB1.out HF.out.2.2).cell 3, (Blk.below' HB1.out HF.out.2.2).cell 4⟩)
        | (exact ⟨(Blk.below' HB1.out (below_row HF.out.2.2 HF.out.1 _)).cell 3, (Blk.below' HB1.out (below_row HF.out.2.2 HF.out.1 _)).cell 4⟩)
        | (exact ⟨(Blk.below' HB1.out (below_row (HC.out.alloc HC.out.size _) HC.out.size _)).cell 3, (Blk.below' HB1.out (below_row (HC.out.alloc HC.out.size _) HC.out.size _)).cell 4⟩))
      (first
      | (go_at_call 8; (with_reducible refine (ofw_c HA.out (HU.out.below HC.out)).mono ?_); rintro e wn ⟨r, rfl, hr, hbn⟩
         obtain ⟨X, cx, rfl⟩ := hr.form
         have HR : Hid (Ds wn _ a) := hr
         replace HC : Hid (Below w1.heap.size w1 wn) := Rg.below_step HC.out hbn
         clear hr hbn)
      | (go_at_call 8; (with_reducible refine (ofw_c HA.out (HU.out.below ((Below.refl _ _).alloc (Nat.le_refl _) _).drew)).mono ?_); rintro e wn ⟨r, rfl, hr, hbn⟩
         obtain ⟨X, cx, rfl⟩ := hr.form
         have HR : Hid (Ds wn _ a) := hr
         have HF : Hid (Fin w1 wn w1.heap.size) := (Fin.new (Below.refl w1.heap.size w1)).drew.below hbn
         clear hr hbn HC)
      | (go_at_call 7; (with_reducible refine (whole_c HR.out _).mono ?_); rintro e wn ⟨r, rfl, hr, hbn⟩
         rw [HSS.out] at hr
         obtain ⟨X1, nx, cx, Y1, ny, cy, rfl⟩ := hr.form
         have HV : Hid (Ra wn _ s a) := hr
         try (replace HC : Hid (Below w1.heap.size w1 wn) := Rg.below_step HC.out hbn)
         try (replace HF : Hid (Fin w1 wn _) := HF.out.below hbn)
         try (have hS : Slot wn _ 30 3 := HF.out.2.1.slot)
         try (have hS : Slot wn w1.heap.size 30 3 := HF.out.2.1.slot)
         try (have hS : Slot (wn.alloc (.cells #[.bool false, .slice none 0 0, .slice none 0 0] 30)) wn.heap.size 30 3 := (Blk.new wn 30 r0).slot)
         clear hr hbn)
      | (go_at_call 7; (with_reducible refine (whole_c (HR.out.below ((Below.refl _ _).alloc (Nat.le_refl _) _)) _).mono ?_); rintro e wn ⟨r, rfl, hr, hbn⟩
         rw [HSS.out] at hr
         obtain ⟨X1, nx, cx, Y1, ny, cy, rfl⟩ := hr.form
         have HV : Hid (Ra wn _ s a) := hr
         have HF : Hid (Fin w1 wn _) := (Fin.new HC.out).below hbn
         have hS : Slot wn _ 30 3 := HF.out.2.1.slot
         clear hr hbn HC))
    all_goals
      go_wp2_with fail
      go_meet
      first
        | exact ⟨_, _, _, _, _, _, _, rfl, HF.out.1, (HF.out.done HV.out).2.1, (HF.out.done HV.out).2.2.1, (HF.out.done HV.out).2.2.2⟩
        | exact ⟨_, _, _, _, _, _, _, rfl, (Fin.new HC.out).1, ((Fin.new HC.out).done (HV.out.below ((Below.refl _ _).alloc (Nat.le_refl _) _))).2.1, ((Fin.new HC.out).done (HV.out.below ((Below.refl _ _).alloc (Nat.le_refl _) _))).2.2.1, ((Fin.new HC.out).done (HV.out.below ((Below.refl _ _).alloc (Nat.le_refl _) _))).2.2.2⟩
  case rest =>
  obtain ⟨g, X, nx, cx, Y, ny, cy, hs4, HG, HV, HC, HR⟩ := hcut
  subst hs4
  revert wc
  intro wa HV HC HR
  have HL : Hid (w.heap.size + 1 < g) := Nat.lt_of_lt_of_le HB2.out.lt HG.out
  replace HB1 : Hid (Blk wa _ _ _) := Blk.below' HB1.out HC.out
  replace HB2 : Hid (Blk wa _ _ _) := Blk.below' HB2.out HC.out
  replace HH : Hid (Below w.heap.size w wa) := HH.out.trans (HC.out.mono HH.out.size)
  replace HU : Hid (Us wa _ _) := HU.out.below HC.out
  have HN : Hid (Ds wa (.slice X nx cx) a) := Ra.num HR.out
  have HD0 : Hid (Below wa.heap.size wa wa.drew) := ⟨rfl, rfl, rfl, Nat.le_refl _, fun _ _ => rfl⟩
  clear HC HG HW HSS
  go_wp2_with fail
  go_region_held3 (fun w' => Only wa (w.heap.size + 1) 30 3 w' ∧ (∀ j, w'.cell? ⟨w.heap.size, j, none⟩ = (Wa.iv s (.slice A n c))[j]?) ∧ (∀ j, w'.cell? ⟨g, j, none⟩ = (#[.bool s, .slice X nx cx, .slice Y ny cy] : Array Value)[j]?) ∧ Slot w' (w.heap.size + 1) 30 3)
    ((refine (fun hO => ⟨hO, (hO.blk HB1.out (by omega)).cells, (hO.blk HV.out (by have := HL.out; omega)).cells, hO.slot⟩ : Only wa (w.heap.size + 1) 30 3 _ → _) ?_; first
      | exact Only.start HB2.out.slot
      | exact (Only.start HB2.out.slot).below HX.out
      | exact ((Only.start HB2.out.slot).below HX.out).setRow rfl))
    (first
    | (go_at_call 43; (with_reducible refine (isNumber_c HS.out HA.out (HU.out.below HD0.out) (HN.out.below HD0.out)).mono ?_); rintro e wn ⟨rfl, hbn⟩
       have HX : Hid (Below wa.drew.heap.size wa.drew wn) := hbn
       have HZ : Hid (Below wa.heap.size wa wn) := Rg.below_step HD0.out hbn
       clear hbn)
    | (go_at_call 44; (with_reducible refine (rest_c (HU.out.below HZ.out)).mono ?_); rintro e wn ⟨rfl, hbn⟩
       replace HX : Hid (Below wa.drew.heap.size wa.drew wn) := Rg.below_step HX.out hbn
       replace HZ : Hid (Below wa.heap.size wa wn) := Rg.below_step HZ.out hbn
       clear hbn))
  all_goals
    go_wp2_with fail
    exact ret30b rfl rfl rfl rfl ((Blk.below' HB2.out HZ.out).setRow_same _) rfl ⟨_, rfl, (HR.out.below HZ.out).setRow (Blk.below' HB2.out HZ.out) _, below_row (HH.out.trans (HZ.out.mono HH.out.size)) (by omega) _⟩
end Sp
end Go.Proofs.YtdpnoaaeplgdjaaGreatDoor
/-
  THE WALK OF package spec's IsInt, of what the code tells of an integer.
-/
namespace Go.Proofs.YtdpnoaaeplgdjaaGreatDoor
open Go.RowKit Go.Proofs.YtdpnoaaeplgdjaaGreatDoorW.PrintWords Go.Proofs.YtdpnoaaeplgdjaaGreatDoorW.PrintMore
namespace Sp
open Rg Dg

theorem same_r {w : World} {v u : Value} {p : Bool} {a : Nat} (ha : dlen a ≤ 900) (h1 : Ra w v p a) (h2 : Ra w u p a) : Calls Tryz.prog 26 #[v, u] w fun e w' => e = .returned (.bool true) ∧ Below w.heap.size w w' := by
  obtain ⟨x, y, rfl, hx, hy⟩ := h1
  obtain ⟨x', y', rfl, hx', hy'⟩ := h2
  exact same_c ha hx hy hx' hy'

set_option maxRecDepth 100000 in
set_option maxHeartbeats 8000000 in
theorem isInt_c {w : World} {s : Bool} {u r : Value} {a : Nat} (hs : s = true → 0 < a) (ha : dlen a ≤ 900) (h : Us w u (wds a)) (h2 : Ra w r s a) :
    Calls Tryz.prog 14 #[.agg (Wa.iv s u), r] w fun e w' => e = .returned (.bool true) ∧ Below w.heap.size w w' := by
  obtain ⟨A, n, c, rfl⟩ := h.form
  obtain ⟨B, m, d, B', m', d', rfl⟩ := h2.form
  obtain ⟨w1, hw1⟩ : ∃ w1, (w.alloc (.cells (Wa.iv s (.slice A n c)) 41)).alloc (.cells #[.bool s, .slice B m d, .slice B' m' d'] 30) = w1 := ⟨_, rfl⟩
  have HW : Hid ((w.alloc (.cells (Wa.iv s (.slice A n c)) 41)).alloc (.cells #[.bool s, .slice B m d, .slice B' m' d'] 30) = w1) := hw1
  have hB1 : Blk w1 w.heap.size 41 (Wa.iv s (.slice A n c)) := by rw [← hw1]; exact (Blk.new w 41 _).alloc _
  have hB2 : Blk w1 (w.heap.size + 1) 30 #[.bool s, .slice B m d, .slice B' m' d'] := by
    rw [← hw1]
    have := Blk.new (w.alloc (.cells (Wa.iv s (.slice A n c)) 41)) 30 #[.bool s, .slice B m d, .slice B' m' d']
    simpa using this
  have hb : Below w.heap.size w w1 := by rw [← hw1]; exact ((Below.refl _ _).alloc (Nat.le_refl _) _).alloc (by simp) _
  have HB2 : Hid (Blk w1 (w.heap.size + 1) 30 #[.bool s, .slice B m d, .slice B' m' d']) := hB2
  have HH : Hid (Below w.heap.size w w1) := hb
  have HA : Hid (dlen a ≤ 900) := ha
  have HI : Hid (Calls Tryz.prog 25 #[.agg (Wa.iv s (.slice A n c))] w1 fun e w' => ∃ r, e = .returned (.tuple #[r, .bool true]) ∧ Ra w' r s a ∧ Below w1.heap.size w1 w') := integer_c hs ha (h.below hb)
  have HR : Hid (Ra w1 (.agg #[.bool s, .slice B m d, .slice B' m' d']) s a) := h2.below hb
  have c1 := hB1.cells
  clear hw1 hB1 hB2 hb h ha hs h2
  go_enter Tryz.func14, Tryz.ntmps14
  go_upto_region 1 with fail
  rw [HW.out]
  go_wp2_with fail
  refine HI.out.mono ?_
  rintro e w2 ⟨q, rfl, hq, hb2⟩
  obtain ⟨X, nx, cx, Y, ny, cy, rfl⟩ := hq.form
  have hF := Fin.new (w1 := w2) (Below.refl w2.heap.size w2)
  have hd := hF.done (cells := #[.bool s, .slice X nx cx, .slice Y ny cy]) (hq.below ((Below.refl _ _).alloc (Nat.le_refl _) _))
  have hS : Slot (w2.alloc (.cells #[.bool false, .slice none 0 0, .slice none 0 0] 30)) w2.heap.size 30 3 := hF.2.1.slot
  obtain ⟨w3, hw3⟩ : ∃ w3, (w2.alloc (.cells #[.bool false, .slice none 0 0, .slice none 0 0] 30)).setRow w2.heap.size #[.bool s, .slice X nx cx, .slice Y ny cy] = w3 := ⟨_, rfl⟩
  have HW3 : Hid ((w2.alloc (.cells #[.bool false, .slice none 0 0, .slice none 0 0] 30)).setRow w2.heap.size #[.bool s, .slice X nx cx, .slice Y ny cy] = w3) := hw3
  have hd3 : w2.heap.size ≤ w2.heap.size ∧ Blk w3 w2.heap.size 30 #[.bool s, .slice X nx cx, .slice Y ny cy] ∧ Below w2.heap.size w2 w3 ∧ Ra w3 (.agg #[.bool s, .slice X nx cx, .slice Y ny cy]) s a := by
    rw [← hw3]; exact hd
  obtain ⟨_, h3, h4, h5⟩ := hd3
  have h6 : Below w1.heap.size w1 w3 := Rg.below_step hb2 h4
  replace HB2 : Hid (Blk w3 _ _ _) := Blk.below' HB2.out h6
  replace HR : Hid (Ra w3 _ _ _) := HR.out.below h6
  replace HH : Hid (Below w.heap.size w w3) := HH.out.trans (h6.mono HH.out.size)
  have HV : Hid (Blk w3 w2.heap.size 30 #[.bool s, .slice X nx cx, .slice Y ny cy]) := h3
  have HQ : Hid (Ra w3 (.agg #[.bool s, .slice X nx cx, .slice Y ny cy]) s a) := h5
  clear hF hd hw3 h3 h4 h5 h6 hq hb2 c1 HI HW
  go_upto_region 2 with fail
  rw [HW3.out]
  obtain ⟨g, hg⟩ : ∃ g, w2.heap.size = g := ⟨_, rfl⟩
  rw [hg] at HV ⊢
  clear hg hS HW3
  have c1 := HV.out.cells
  have c2 := HB2.out.cells
  go_wp2_with fail
  refine (same_r HA.out HQ.out HR.out).mono ?_
  rintro e w4 ⟨rfl, hb4⟩
  clear c1 c2
  go_wp2_with fail
  go_ret
  exact ⟨rfl, HH.out.trans (hb4.mono HH.out.size)⟩
end Sp
end Go.Proofs.YtdpnoaaeplgdjaaGreatDoor
