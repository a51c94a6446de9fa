/-
  THE WALK OF package spec's Plus and Minus, of integers over 1.
-/
import Derived.Test.YtdpnoaaeplgdjaaGreatDoorRaBC
import Derived.Test.YtdpnoaaeplgdjaaGreatDoorRp
namespace Go.Proofs.YtdpnoaaeplgdjaaGreatDoor
open Go.RowKit Go.Proofs.YtdpnoaaeplgdjaaGreatDoorW.PrintWords Go.Proofs.YtdpnoaaeplgdjaaGreatDoorW.PrintMore
namespace Sp
open Rg Dg

theorem cell0 {w : World} {g : Nat} {x y z : Value} (h : Blk w g 30 #[x, y, z]) : w.cell? ⟨g, 0, none⟩ = some x := h.cell 0
theorem cell1 {w : World} {g : Nat} {x y z : Value} (h : Blk w g 30 #[x, y, z]) : w.cell? ⟨g, 1, none⟩ = some y := h.cell 1
theorem cell2 {w : World} {g : Nat} {x y z : Value} (h : Blk w g 30 #[x, y, z]) : w.cell? ⟨g, 2, none⟩ = some z := h.cell 2
/-- Three structs made one behind the other. -/
theorem three30 (w : World) (x y z : Array Value) : Blk (((w.alloc (.cells x 30)).alloc (.cells y 30)).alloc (.cells z 30)) w.heap.size 30 x ∧
    Blk (((w.alloc (.cells x 30)).alloc (.cells y 30)).alloc (.cells z 30)) (w.heap.size + 1) 30 y ∧ Blk (((w.alloc (.cells x 30)).alloc (.cells y 30)).alloc (.cells z 30)) (w.heap.size + 1 + 1) 30 z ∧
    Below w.heap.size w (((w.alloc (.cells x 30)).alloc (.cells y 30)).alloc (.cells z 30)) := by
  refine ⟨((Blk.new w 30 x).alloc _).alloc _, ?_, ?_, (((Below.refl _ _).alloc (Nat.le_refl _) _).alloc (by simp) _).alloc (by simp; omega) _⟩
  · have := (Blk.new (w.alloc (.cells x 30)) 30 y).alloc (.cells z 30)
    simpa using this
  · have := Blk.new ((w.alloc (.cells x 30)).alloc (.cells y 30)) 30 z
    simpa using this
theorem Ra.form {w : World} {v : Value} {p : Bool} {a : Nat} (h : Ra w v p a) : ∃ A n c A' n' c', v = .agg #[.bool p, .slice A n c, .slice A' n' c'] := by
  obtain ⟨x, y, rfl, hx, hy⟩ := h
  obtain ⟨A, c, rfl⟩ := hx.form
  obtain ⟨A', c', rfl⟩ := hy.form
  exact ⟨_, _, _, _, _, _, rfl⟩
theorem Ra.setRow {w : World} {v : Value} {p : Bool} {a g : Nat} (h : Ra w v p a) (hg : Blk w g 30 r0) (cells : Array Value) : Ra (w.setRow g cells) v p a := by
  obtain ⟨x, y, rfl, hx, hy⟩ := h
  exact ⟨x, y, rfl, hx.setRow hg _, hy.setRow hg _⟩

set_option maxRecDepth 100000 in
set_option maxHeartbeats 8000000 in
theorem plus_c {w : World} {v u : Value} {p q : Bool} {a b : Nat} (ha : dlen a ≤ 900) (hb : dlen b ≤ 900) (hab : dlen (a + b) ≤ 900) (h1 : Ra w v p a) (h2 : Ra w u q b) :
    Calls Tryz.prog 22 #[v, u] w fun e w' => ∃ r, e = .returned r ∧ Ra w' r (pn p q a b).1 (pn p q a b).2 ∧ Below w.heap.size w w' := by
  obtain ⟨x, y, rfl, hx, hy⟩ := h1
  obtain ⟨x', y', rfl, hx', hy'⟩ := h2
  obtain ⟨w1, hw1⟩ : ∃ w1, ((w.alloc (.cells #[.bool p, x, y] 30)).alloc (.cells #[.bool q, x', y'] 30)).alloc (.cells r0 30) = w1 := ⟨_, rfl⟩
  have HW : Hid (((w.alloc (.cells #[.bool p, x, y] 30)).alloc (.cells #[.bool q, x', y'] 30)).alloc (.cells r0 30) = w1) := hw1
  obtain ⟨hB1, hB2, hB3, hb0⟩ := three30 w #[.bool p, x, y] #[.bool q, x', y'] r0
  rw [hw1] at hB1 hB2 hB3 hb0
  have HM1 : Hid (∀ w', Below w1.heap.size w1 w' → Calls Tryz.prog 37 #[x, y'] w' fun e w'' => ∃ r, e = .returned r ∧ Ds w'' r a ∧ Below w'.heap.size w' w'') := fun w' h => mul1_c ha ((hx.below hb0).below h) ((hy'.below hb0).below h)
  have HM2 : Hid (∀ w', Below w1.heap.size w1 w' → Calls Tryz.prog 37 #[x', y] w' fun e w'' => ∃ r, e = .returned r ∧ Ds w'' r b ∧ Below w'.heap.size w' w'') := fun w' h => mul1_c hb ((hx'.below hb0).below h) ((hy.below hb0).below h)
  have HM3 : Hid (∀ w', Below w1.heap.size w1 w' → Calls Tryz.prog 37 #[y, y'] w' fun e w'' => ∃ r, e = .returned r ∧ Ds w'' r 1 ∧ Below w'.heap.size w' w'') := fun w' h => mul1_c (by decide) ((hy.below hb0).below h) ((hy'.below hb0).below h)
  have HB1 : Hid (Blk w1 w.heap.size 30 #[.bool p, x, y]) := hB1
  have HB2 : Hid (Blk w1 (w.heap.size + 1) 30 #[.bool q, x', y']) := hB2
  have HB3 : Hid (Blk w1 (w.heap.size + 1 + 1) 30 r0) := hB3
  have HH : Hid (Below w.heap.size w w1) := hb0
  obtain ⟨A, c, rfl⟩ := hx.form
  obtain ⟨A', c', rfl⟩ := hy.form
  obtain ⟨B, d, rfl⟩ := hx'.form
  obtain ⟨B', d', rfl⟩ := hy'.form
  obtain ⟨na, hna⟩ : ∃ na, dlen a = na := ⟨_, rfl⟩
  obtain ⟨nb, hnb⟩ : ∃ nb, dlen b = nb := ⟨_, rfl⟩
  obtain ⟨n1, hn1⟩ : ∃ n1, dlen 1 = n1 := ⟨_, rfl⟩
  have HL : Hid (dlen a ≤ 900 ∧ dlen b ≤ 900 ∧ dlen (a + b) ≤ 900) := ⟨ha, hb, hab⟩
  rw [hna, hn1] at HW HM1 HB1 ⊢
  rw [hnb] at HW HM2 HB2 ⊢
  rw [hn1] at HM2 HM3 HB2
  clear hx hy hx' hy' hw1 hB1 hB2 hB3 hb0 hna hnb hn1 ha hb hab
  go_enter Tryz.func22, Tryz.ntmps22
  go_upto_region 1 with fail
  rw [HW.out]
  go_cut [5, 6, 7] (fun s5 s6 s7 wx => Hid (Ds wx s5 a) ∧ Hid (Ds wx s6 b) ∧ Hid (Ds wx s7 1) ∧ Hid (Below w1.heap.size w1 wx))
  case first =>
    have HC : Hid (Below w1.heap.size w1 w1.drew) := ⟨rfl, rfl, rfl, Nat.le_refl _, fun _ _ => rfl⟩
    go_region_held3 (fun w' => w'.cell? ⟨w.heap.size, 1, none⟩ = some (.slice A na c) ∧ w'.cell? ⟨w.heap.size, 2, none⟩ = some (.slice A' n1 c') ∧ w'.cell? ⟨w.heap.size + 1, 1, none⟩ = some (.slice B nb d) ∧ w'.cell? ⟨w.heap.size + 1, 2, none⟩ = some (.slice B' n1 d'))
      (exact ⟨cell1 (Blk.below' HB1.out HC.out), cell2 (Blk.below' HB1.out HC.out), cell1 (Blk.below' HB2.out HC.out), cell2 (Blk.below' HB2.out HC.out)⟩)
      (first
      | (go_at_call_of 37 (Value.slice A na c); refine (HM1.out _ HC.out).mono ?_; rintro e wn ⟨r1, rfl, hr1, hbn⟩
         have HR1 : Hid (Ds wn r1 a) := hr1
         try (replace HR2 : Hid (Ds wn _ b) := HR2.out.below hbn)
         try (replace HR3 : Hid (Ds wn _ 1) := HR3.out.below hbn)
         replace HC : Hid (Below w1.heap.size w1 wn) := Rg.below_step HC.out hbn
         clear hr1 hbn)
      | (go_at_call_of 37 (Value.slice B nb d); refine (HM2.out _ HC.out).mono ?_; rintro e wn ⟨r2, rfl, hr2, hbn⟩
         have HR2 : Hid (Ds wn r2 b) := hr2
         try (replace HR1 : Hid (Ds wn _ a) := HR1.out.below hbn)
         try (replace HR3 : Hid (Ds wn _ 1) := HR3.out.below hbn)
         replace HC : Hid (Below w1.heap.size w1 wn) := Rg.below_step HC.out hbn
         clear hr2 hbn)
      | (go_at_call 37; refine (HM3.out _ HC.out).mono ?_; rintro e wn ⟨r3, rfl, hr3, hbn⟩
         have HR3 : Hid (Ds wn r3 1) := hr3
         try (replace HR1 : Hid (Ds wn _ a) := HR1.out.below hbn)
         try (replace HR2 : Hid (Ds wn _ b) := HR2.out.below hbn)
         replace HC : Hid (Below w1.heap.size w1 wn) := Rg.below_step HC.out hbn
         clear hr3 hbn))
    all_goals
      go_wp2_with fail
      go_meet
      exact ⟨HR1.out, HR2.out, HR3.out, HC.out⟩
  case rest =>
  obtain ⟨H5, H6, H7, HC⟩ := hcut
  revert wc
  intro wa H5 H6 H7 HC
  have HB1a : Hid (Blk wa w.heap.size 30 #[.bool p, .slice A na c, .slice A' n1 c']) := Blk.below' HB1.out HC.out
  have HB2a : Hid (Blk wa (w.heap.size + 1) 30 #[.bool q, .slice B nb d, .slice B' n1 d']) := Blk.below' HB2.out HC.out
  have HB3a : Hid (Blk wa (w.heap.size + 1 + 1) 30 r0) := Blk.below' HB3.out HC.out
  have HWA : Hid (Below w.heap.size w wa) := HH.out.trans (HC.out.mono HH.out.size)
  have HDR : Hid (Below wa.heap.size wa wa.drew) := ⟨rfl, rfl, rfl, Nat.le_refl _, fun _ _ => rfl⟩
  have e0 := cell0 HB1a.out
  have f0 := cell0 HB2a.out
  have HADD : Hid (∀ w', Below wa.heap.size wa w' → Calls Tryz.prog 39 #[u5, u6] w' fun e w'' => ∃ r, e = .returned r ∧ Ds w'' r (a + b) ∧ Below w'.heap.size w' w'') := fun w' h => add_c HL.out.1 HL.out.2.1 (H5.out.below h) (H6.out.below h)
  have HCMP : Hid (∀ w', Below wa.heap.size wa w' → Calls Tryz.prog 40 #[u5, u6] w' fun e w'' => e = .returned (.int .i64 (cmpN a b)) ∧ Below w'.heap.size w' w'') := fun w' h => cmp_c HL.out.1 (H5.out.below h) (H6.out.below h)
  clear HW HM1 HM2 HM3 HB1 HB2 HB3 HC
  cases p <;> cases q
  case false.false =>
    have HA := HADD
    have HP : Hid (pn false false a b = (false && decide (0 < a + b), a + b)) := if_pos rfl
    clear HCMP HADD
    go_wp2_with fail
    go_region_held3 (fun w' => w'.cell? ⟨w.heap.size, 0, none⟩ = some (.bool false) ∧ Slot w' (w.heap.size + 1 + 1) 30 3 ∧ Only wa (w.heap.size + 1 + 1) 30 3 w')
      (first
        | (exact ⟨cell0 HB1a.out, HB3a.out.slot, Only.start HB3a.out.slot⟩)
        | (exact ⟨cell0 (Blk.below' HB1a.out HBM.out), (Blk.below' HB3a.out HBM.out).slot, (Only.start HB3a.out.slot).below HBX.out⟩)
        | (exact ⟨cell0 (Blk.below' HB1a.out HBZ.out), (Blk.below' HB3a.out HBZ.out).slot, (Only.start HB3a.out.slot).below HBX.out⟩)
        | (refine (fun hO => ⟨cell0 (hO.blk HB1a.out (by omega)), hO.slot, hO⟩ : Only wa (w.heap.size + 1 + 1) 30 3 _ → _) ?_; exact Only.setRow ((Only.start HB3a.out.slot).below HBX.out) rfl))
      (first
      | (go_at_call 39; refine (HA.out _ HDR.out).mono ?_; rintro e wm ⟨r1, rfl, hr1, hbm⟩
         have HR1 : Hid (Ds wm r1 _) := hr1
         have HBM : Hid (Below wa.heap.size wa wm) := Rg.below_step HDR.out hbm
         have HBX : Hid (Below wa.drew.heap.size wa.drew wm) := hbm
         clear hr1 hbm)
      | (go_at_call 38; refine (over1 HL.out.2.2 HR1.out (H7.out.below HBM.out) _).mono ?_; rintro e wz ⟨r2, rfl, hr2, hbz⟩
         obtain ⟨X, nx, cx, Y, ny, cy, rfl⟩ := hr2.form
         have HR2 : Hid (Ra wz _ _ _) := hr2
         have HBZ : Hid (Below wa.heap.size wa wz) := Rg.below_step HBM.out hbz
         replace HBX : Hid (Below wa.drew.heap.size wa.drew wz) := Rg.below_step HBX.out hbz
         clear hr2 hbz HBM))
    all_goals
      go_wp2_with fail
      exact ret30 rfl rfl rfl ((Blk.below' HB3a.out HBZ.out).setRow_same _) rfl ⟨_, rfl, by rw [HP.out]; exact HR2.out.setRow (Blk.below' HB3a.out HBZ.out) _, below_row (HWA.out.trans (HBZ.out.mono HWA.out.size)) (by omega) _⟩
  case false.true =>
    rcases Nat.lt_or_ge a b with hc | hc
    · have HK : Hid (cmpN a b = -1) := if_pos hc
      have HP : Hid (pn false true a b = (true && decide (0 < b - a), b - a)) := (show pn _ _ a b = _ from by unfold pn; rw [if_neg (by decide), if_neg (by omega)])
      have HBD : Hid (dlen (b - a) ≤ 900) := Nat.le_trans (dlen_mono (Nat.sub_le b a)) HL.out.2.1
      have HAX : Hid (∀ w', Below wa.heap.size wa w' → Calls Tryz.prog 41 #[u6, u5] w' fun e w'' => ∃ r, e = .returned r ∧ Ds w'' r (b - a) ∧ Below w'.heap.size w' w'') := fun w' h => sub_c (Nat.le_of_lt hc) HL.out.2.1 (H6.out.below h) (H5.out.below h)
      clear hc HADD
      go_wp2_with fail
      refine (HCMP.out _ (Below.refl _ _)).mono ?_
      rintro e wq ⟨rfl, hbq⟩
      rw [HK.out]
      have HWQ : Hid (Below w.heap.size w wq) := HWA.out.trans (hbq.mono HWA.out.size)
      have HA : Hid (∀ w', Below wq.heap.size wq w' → _) := fun w' h => HAX.out w' (Rg.below_step hbq h)
      replace HB1a : Hid (Blk wq _ _ _) := Blk.below' HB1a.out hbq
      replace HB2a : Hid (Blk wq _ _ _) := Blk.below' HB2a.out hbq
      replace HB3a : Hid (Blk wq _ _ _) := Blk.below' HB3a.out hbq
      replace H7 : Hid (Ds wq u7 1) := H7.out.below hbq
      have HDQ : Hid (Below wq.heap.size wq wq.drew) := ⟨rfl, rfl, rfl, Nat.le_refl _, fun _ _ => rfl⟩
      clear hbq HAX HCMP HK H5 H6 HWA HDR e0 f0
      have e0 := cell0 HB1a.out
      have f0 := cell0 HB2a.out
      go_wp2_with fail
      go_region_held3 (fun w' => w'.cell? ⟨w.heap.size + 1, 0, none⟩ = some (.bool true) ∧ Slot w' (w.heap.size + 1 + 1) 30 3 ∧ Only wq (w.heap.size + 1 + 1) 30 3 w')
        (first
          | (exact ⟨cell0 HB2a.out, HB3a.out.slot, Only.start HB3a.out.slot⟩)
          | (exact ⟨cell0 (Blk.below' HB2a.out HBM.out), (Blk.below' HB3a.out HBM.out).slot, (Only.start HB3a.out.slot).below HBX.out⟩)
          | (exact ⟨cell0 (Blk.below' HB2a.out HBZ.out), (Blk.below' HB3a.out HBZ.out).slot, (Only.start HB3a.out.slot).below HBX.out⟩)
          | (refine (fun hO => ⟨cell0 (hO.blk HB2a.out (by omega)), hO.slot, hO⟩ : Only wq (w.heap.size + 1 + 1) 30 3 _ → _) ?_; exact Only.setRow ((Only.start HB3a.out.slot).below HBX.out) rfl))
        (first
        | (go_at_call 41; refine (HA.out _ HDQ.out).mono ?_; rintro e wm ⟨r1, rfl, hr1, hbm⟩
           have HR1 : Hid (Ds wm r1 _) := hr1
           have HBM : Hid (Below wq.heap.size wq wm) := Rg.below_step HDQ.out hbm
           have HBX : Hid (Below wq.drew.heap.size wq.drew wm) := hbm
           clear hr1 hbm)
        | (go_at_call 38; refine (over1 HBD.out HR1.out (H7.out.below HBM.out) _).mono ?_; rintro e wz ⟨r2, rfl, hr2, hbz⟩
           obtain ⟨X, nx, cx, Y, ny, cy, rfl⟩ := hr2.form
           have HR2 : Hid (Ra wz _ _ _) := hr2
           have HBZ : Hid (Below wq.heap.size wq wz) := Rg.below_step HBM.out hbz
           replace HBX : Hid (Below wq.drew.heap.size wq.drew wz) := Rg.below_step HBX.out hbz
           clear hr2 hbz HBM))
      all_goals
        go_wp2_with fail
        exact ret30 rfl rfl rfl ((Blk.below' HB3a.out HBZ.out).setRow_same _) rfl ⟨_, rfl, by rw [HP.out]; exact HR2.out.setRow (Blk.below' HB3a.out HBZ.out) _, below_row (HWQ.out.trans (HBZ.out.mono HWQ.out.size)) (by omega) _⟩
    · have HP : Hid (pn false true a b = (false && decide (0 < a - b), a - b)) := (show pn _ _ a b = _ from by unfold pn; rw [if_neg (by decide), if_pos hc])
      obtain ⟨K, hK⟩ : ∃ K, cmpN a b = K := ⟨_, rfl⟩
      have hK0 : 0 ≤ K := by rw [← hK]; unfold cmpN; rw [if_neg (by omega)]; split <;> decide
      have HK : Hid (cmpN a b = K) := hK
      have HBD : Hid (dlen (a - b) ≤ 900) := Nat.le_trans (dlen_mono (Nat.sub_le a b)) HL.out.1
      have HAX : Hid (∀ w', Below wa.heap.size wa w' → Calls Tryz.prog 41 #[u5, u6] w' fun e w'' => ∃ r, e = .returned r ∧ Ds w'' r (a - b) ∧ Below w'.heap.size w' w'') := fun w' h => sub_c hc HL.out.1 (H5.out.below h) (H6.out.below h)
      clear hc HADD hK
      go_wp2_with fail
      refine (HCMP.out _ (Below.refl _ _)).mono ?_
      rintro e wq ⟨rfl, hbq⟩
      rw [HK.out]
      have HWQ : Hid (Below w.heap.size w wq) := HWA.out.trans (hbq.mono HWA.out.size)
      have HA : Hid (∀ w', Below wq.heap.size wq w' → _) := fun w' h => HAX.out w' (Rg.below_step hbq h)
      replace HB1a : Hid (Blk wq _ _ _) := Blk.below' HB1a.out hbq
      replace HB2a : Hid (Blk wq _ _ _) := Blk.below' HB2a.out hbq
      replace HB3a : Hid (Blk wq _ _ _) := Blk.below' HB3a.out hbq
      replace H7 : Hid (Ds wq u7 1) := H7.out.below hbq
      have HDQ : Hid (Below wq.heap.size wq wq.drew) := ⟨rfl, rfl, rfl, Nat.le_refl _, fun _ _ => rfl⟩
      clear hbq HAX HCMP HK H5 H6 HWA HDR e0 f0
      have e0 := cell0 HB1a.out
      have f0 := cell0 HB2a.out
      go_wp2_with fail
      go_region_held3 (fun w' => w'.cell? ⟨w.heap.size, 0, none⟩ = some (.bool false) ∧ Slot w' (w.heap.size + 1 + 1) 30 3 ∧ Only wq (w.heap.size + 1 + 1) 30 3 w')
        (first
          | (exact ⟨cell0 HB1a.out, HB3a.out.slot, Only.start HB3a.out.slot⟩)
          | (exact ⟨cell0 (Blk.below' HB1a.out HBM.out), (Blk.below' HB3a.out HBM.out).slot, (Only.start HB3a.out.slot).below HBX.out⟩)
          | (exact ⟨cell0 (Blk.below' HB1a.out HBZ.out), (Blk.below' HB3a.out HBZ.out).slot, (Only.start HB3a.out.slot).below HBX.out⟩)
          | (refine (fun hO => ⟨cell0 (hO.blk HB1a.out (by omega)), hO.slot, hO⟩ : Only wq (w.heap.size + 1 + 1) 30 3 _ → _) ?_; exact Only.setRow ((Only.start HB3a.out.slot).below HBX.out) rfl))
        (first
        | (go_at_call 41; refine (HA.out _ HDQ.out).mono ?_; rintro e wm ⟨r1, rfl, hr1, hbm⟩
           have HR1 : Hid (Ds wm r1 _) := hr1
           have HBM : Hid (Below wq.heap.size wq wm) := Rg.below_step HDQ.out hbm
           have HBX : Hid (Below wq.drew.heap.size wq.drew wm) := hbm
           clear hr1 hbm)
        | (go_at_call 38; refine (over1 HBD.out HR1.out (H7.out.below HBM.out) _).mono ?_; rintro e wz ⟨r2, rfl, hr2, hbz⟩
           obtain ⟨X, nx, cx, Y, ny, cy, rfl⟩ := hr2.form
           have HR2 : Hid (Ra wz _ _ _) := hr2
           have HBZ : Hid (Below wq.heap.size wq wz) := Rg.below_step HBM.out hbz
           replace HBX : Hid (Below wq.drew.heap.size wq.drew wz) := Rg.below_step HBX.out hbz
           clear hr2 hbz HBM))
      all_goals
        go_wp2_with fail
        exact ret30 rfl rfl rfl ((Blk.below' HB3a.out HBZ.out).setRow_same _) rfl ⟨_, rfl, by rw [HP.out]; exact HR2.out.setRow (Blk.below' HB3a.out HBZ.out) _, below_row (HWQ.out.trans (HBZ.out.mono HWQ.out.size)) (by omega) _⟩
  case true.false =>
    rcases Nat.lt_or_ge a b with hc | hc
    · have HK : Hid (cmpN a b = -1) := if_pos hc
      have HP : Hid (pn true false a b = (false && decide (0 < b - a), b - a)) := (show pn _ _ a b = _ from by unfold pn; rw [if_neg (by decide), if_neg (by omega)])
      have HBD : Hid (dlen (b - a) ≤ 900) := Nat.le_trans (dlen_mono (Nat.sub_le b a)) HL.out.2.1
      have HAX : Hid (∀ w', Below wa.heap.size wa w' → Calls Tryz.prog 41 #[u6, u5] w' fun e w'' => ∃ r, e = .returned r ∧ Ds w'' r (b - a) ∧ Below w'.heap.size w' w'') := fun w' h => sub_c (Nat.le_of_lt hc) HL.out.2.1 (H6.out.below h) (H5.out.below h)
      clear hc HADD
      go_wp2_with fail
      refine (HCMP.out _ (Below.refl _ _)).mono ?_
      rintro e wq ⟨rfl, hbq⟩
      rw [HK.out]
      have HWQ : Hid (Below w.heap.size w wq) := HWA.out.trans (hbq.mono HWA.out.size)
      have HA : Hid (∀ w', Below wq.heap.size wq w' → _) := fun w' h => HAX.out w' (Rg.below_step hbq h)
      replace HB1a : Hid (Blk wq _ _ _) := Blk.below' HB1a.out hbq
      replace HB2a : Hid (Blk wq _ _ _) := Blk.below' HB2a.out hbq
      replace HB3a : Hid (Blk wq _ _ _) := Blk.below' HB3a.out hbq
      replace H7 : Hid (Ds wq u7 1) := H7.out.below hbq
      have HDQ : Hid (Below wq.heap.size wq wq.drew) := ⟨rfl, rfl, rfl, Nat.le_refl _, fun _ _ => rfl⟩
      clear hbq HAX HCMP HK H5 H6 HWA HDR e0 f0
      have e0 := cell0 HB1a.out
      have f0 := cell0 HB2a.out
      go_wp2_with fail
      go_region_held3 (fun w' => w'.cell? ⟨w.heap.size + 1, 0, none⟩ = some (.bool false) ∧ Slot w' (w.heap.size + 1 + 1) 30 3 ∧ Only wq (w.heap.size + 1 + 1) 30 3 w')
        (first
          | (exact ⟨cell0 HB2a.out, HB3a.out.slot, Only.start HB3a.out.slot⟩)
          | (exact ⟨cell0 (Blk.below' HB2a.out HBM.out), (Blk.below' HB3a.out HBM.out).slot, (Only.start HB3a.out.slot).below HBX.out⟩)
          | (exact ⟨cell0 (Blk.below' HB2a.out HBZ.out), (Blk.below' HB3a.out HBZ.out).slot, (Only.start HB3a.out.slot).below HBX.out⟩)
          | (refine (fun hO => ⟨cell0 (hO.blk HB2a.out (by omega)), hO.slot, hO⟩ : Only wq (w.heap.size + 1 + 1) 30 3 _ → _) ?_; exact Only.setRow ((Only.start HB3a.out.slot).below HBX.out) rfl))
        (first
        | (go_at_call 41; refine (HA.out _ HDQ.out).mono ?_; rintro e wm ⟨r1, rfl, hr1, hbm⟩
           have HR1 : Hid (Ds wm r1 _) := hr1
           have HBM : Hid (Below wq.heap.size wq wm) := Rg.below_step HDQ.out hbm
           have HBX : Hid (Below wq.drew.heap.size wq.drew wm) := hbm
           clear hr1 hbm)
        | (go_at_call 38; refine (over1 HBD.out HR1.out (H7.out.below HBM.out) _).mono ?_; rintro e wz ⟨r2, rfl, hr2, hbz⟩
           obtain ⟨X, nx, cx, Y, ny, cy, rfl⟩ := hr2.form
           have HR2 : Hid (Ra wz _ _ _) := hr2
           have HBZ : Hid (Below wq.heap.size wq wz) := Rg.below_step HBM.out hbz
           replace HBX : Hid (Below wq.drew.heap.size wq.drew wz) := Rg.below_step HBX.out hbz
           clear hr2 hbz HBM))
      all_goals
        go_wp2_with fail
        exact ret30 rfl rfl rfl ((Blk.below' HB3a.out HBZ.out).setRow_same _) rfl ⟨_, rfl, by rw [HP.out]; exact HR2.out.setRow (Blk.below' HB3a.out HBZ.out) _, below_row (HWQ.out.trans (HBZ.out.mono HWQ.out.size)) (by omega) _⟩
    · have HP : Hid (pn true false a b = (true && decide (0 < a - b), a - b)) := (show pn _ _ a b = _ from by unfold pn; rw [if_neg (by decide), if_pos hc])
      obtain ⟨K, hK⟩ : ∃ K, cmpN a b = K := ⟨_, rfl⟩
      have hK0 : 0 ≤ K := by rw [← hK]; unfold cmpN; rw [if_neg (by omega)]; split <;> decide
      have HK : Hid (cmpN a b = K) := hK
      have HBD : Hid (dlen (a - b) ≤ 900) := Nat.le_trans (dlen_mono (Nat.sub_le a b)) HL.out.1
      have HAX : Hid (∀ w', Below wa.heap.size wa w' → Calls Tryz.prog 41 #[u5, u6] w' fun e w'' => ∃ r, e = .returned r ∧ Ds w'' r (a - b) ∧ Below w'.heap.size w' w'') := fun w' h => sub_c hc HL.out.1 (H5.out.below h) (H6.out.below h)
      clear hc HADD hK
      go_wp2_with fail
      refine (HCMP.out _ (Below.refl _ _)).mono ?_
      rintro e wq ⟨rfl, hbq⟩
      rw [HK.out]
      have HWQ : Hid (Below w.heap.size w wq) := HWA.out.trans (hbq.mono HWA.out.size)
      have HA : Hid (∀ w', Below wq.heap.size wq w' → _) := fun w' h => HAX.out w' (Rg.below_step hbq h)
      replace HB1a : Hid (Blk wq _ _ _) := Blk.below' HB1a.out hbq
      replace HB2a : Hid (Blk wq _ _ _) := Blk.below' HB2a.out hbq
      replace HB3a : Hid (Blk wq _ _ _) := Blk.below' HB3a.out hbq
      replace H7 : Hid (Ds wq u7 1) := H7.out.below hbq
      have HDQ : Hid (Below wq.heap.size wq wq.drew) := ⟨rfl, rfl, rfl, Nat.le_refl _, fun _ _ => rfl⟩
      clear hbq HAX HCMP HK H5 H6 HWA HDR e0 f0
      have e0 := cell0 HB1a.out
      have f0 := cell0 HB2a.out
      go_wp2_with fail
      go_region_held3 (fun w' => w'.cell? ⟨w.heap.size, 0, none⟩ = some (.bool true) ∧ Slot w' (w.heap.size + 1 + 1) 30 3 ∧ Only wq (w.heap.size + 1 + 1) 30 3 w')
        (first
          | (exact ⟨cell0 HB1a.out, HB3a.out.slot, Only.start HB3a.out.slot⟩)
          | (exact ⟨cell0 (Blk.below' HB1a.out HBM.out), (Blk.below' HB3a.out HBM.out).slot, (Only.start HB3a.out.slot).below HBX.out⟩)
          | (exact ⟨cell0 (Blk.below' HB1a.out HBZ.out), (Blk.below' HB3a.out HBZ.out).slot, (Only.start HB3a.out.slot).below HBX.out⟩)
          | (refine (fun hO => ⟨cell0 (hO.blk HB1a.out (by omega)), hO.slot, hO⟩ : Only wq (w.heap.size + 1 + 1) 30 3 _ → _) ?_; exact Only.setRow ((Only.start HB3a.out.slot).below HBX.out) rfl))
        (first
        | (go_at_call 41; refine (HA.out _ HDQ.out).mono ?_; rintro e wm ⟨r1, rfl, hr1, hbm⟩
           have HR1 : Hid (Ds wm r1 _) := hr1
           have HBM : Hid (Below wq.heap.size wq wm) := Rg.below_step HDQ.out hbm
           have HBX : Hid (Below wq.drew.heap.size wq.drew wm) := hbm
           clear hr1 hbm)
        | (go_at_call 38; refine (over1 HBD.out HR1.out (H7.out.below HBM.out) _).mono ?_; rintro e wz ⟨r2, rfl, hr2, hbz⟩
           obtain ⟨X, nx, cx, Y, ny, cy, rfl⟩ := hr2.form
           have HR2 : Hid (Ra wz _ _ _) := hr2
           have HBZ : Hid (Below wq.heap.size wq wz) := Rg.below_step HBM.out hbz
           replace HBX : Hid (Below wq.drew.heap.size wq.drew wz) := Rg.below_step HBX.out hbz
           clear hr2 hbz HBM))
      all_goals
        go_wp2_with fail
        exact ret30 rfl rfl rfl ((Blk.below' HB3a.out HBZ.out).setRow_same _) rfl ⟨_, rfl, by rw [HP.out]; exact HR2.out.setRow (Blk.below' HB3a.out HBZ.out) _, below_row (HWQ.out.trans (HBZ.out.mono HWQ.out.size)) (by omega) _⟩
  case true.true =>
    have HA := HADD
    have HP : Hid (pn true true a b = (true && decide (0 < a + b), a + b)) := if_pos rfl
    clear HCMP HADD
    go_wp2_with fail
    go_region_held3 (fun w' => w'.cell? ⟨w.heap.size, 0, none⟩ = some (.bool true) ∧ Slot w' (w.heap.size + 1 + 1) 30 3 ∧ Only wa (w.heap.size + 1 + 1) 30 3 w')
      (first
        | (exact ⟨cell0 HB1a.out, HB3a.out.slot, Only.start HB3a.out.slot⟩)
        | (exact ⟨cell0 (Blk.below' HB1a.out HBM.out), (Blk.below' HB3a.out HBM.out).slot, (Only.start HB3a.out.slot).below HBX.out⟩)
        | (exact ⟨cell0 (Blk.below' HB1a.out HBZ.out), (Blk.below' HB3a.out HBZ.out).slot, (Only.start HB3a.out.slot).below HBX.out⟩)
        | (refine (fun hO => ⟨cell0 (hO.blk HB1a.out (by omega)), hO.slot, hO⟩ : Only wa (w.heap.size + 1 + 1) 30 3 _ → _) ?_; exact Only.setRow ((Only.start HB3a.out.slot).below HBX.out) rfl))
      (first
      | (go_at_call 39; refine (HA.out _ HDR.out).mono ?_; rintro e wm ⟨r1, rfl, hr1, hbm⟩
         have HR1 : Hid (Ds wm r1 _) := hr1
         have HBM : Hid (Below wa.heap.size wa wm) := Rg.below_step HDR.out hbm
         have HBX : Hid (Below wa.drew.heap.size wa.drew wm) := hbm
         clear hr1 hbm)
      | (go_at_call 38; refine (over1 HL.out.2.2 HR1.out (H7.out.below HBM.out) _).mono ?_; rintro e wz ⟨r2, rfl, hr2, hbz⟩
         obtain ⟨X, nx, cx, Y, ny, cy, rfl⟩ := hr2.form
         have HR2 : Hid (Ra wz _ _ _) := hr2
         have HBZ : Hid (Below wa.heap.size wa wz) := Rg.below_step HBM.out hbz
         replace HBX : Hid (Below wa.drew.heap.size wa.drew wz) := Rg.below_step HBX.out hbz
         clear hr2 hbz HBM))
    all_goals
      go_wp2_with fail
      exact ret30 rfl rfl rfl ((Blk.below' HB3a.out HBZ.out).setRow_same _) rfl ⟨_, rfl, by rw [HP.out]; exact HR2.out.setRow (Blk.below' HB3a.out HBZ.out) _, below_row (HWA.out.trans (HBZ.out.mono HWA.out.size)) (by omega) _⟩
end Sp
end Go.Proofs.YtdpnoaaeplgdjaaGreatDoor
