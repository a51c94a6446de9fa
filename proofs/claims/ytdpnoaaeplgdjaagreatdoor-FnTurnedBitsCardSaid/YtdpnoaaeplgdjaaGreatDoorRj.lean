/-
  THE WALK OF the law's floored.
-/
import Derived.Test.YtdpnoaaeplgdjaaGreatDoorRhI
namespace Go.Proofs.YtdpnoaaeplgdjaaGreatDoor
open Go.RowKit Go.Proofs.YtdpnoaaeplgdjaaGreatDoorW.PrintWords Go.Proofs.YtdpnoaaeplgdjaaGreatDoorW.PrintMore
namespace Sp
open Rg Dg

/-- The remainder that floored gives, by its sign and its amount. -/
def fl (p : Bool) (a b : Nat) : Bool × Nat := if (p && decide (0 < a % b)) = true then pn true false (a % b) b else (false, a % b)

/-- Two variables made and filled. -/
theorem two_new (w : World) (x y : Array Value) : Slot ((w.alloc (.cells r0 30)).alloc (.cells r0 30)) w.heap.size 30 3 ∧
    Slot (((w.alloc (.cells r0 30)).alloc (.cells r0 30)).setRow w.heap.size x) (w.heap.size + 1) 30 3 ∧
    Blk ((((w.alloc (.cells r0 30)).alloc (.cells r0 30)).setRow w.heap.size x).setRow (w.heap.size + 1) y) w.heap.size 30 x ∧
    Blk ((((w.alloc (.cells r0 30)).alloc (.cells r0 30)).setRow w.heap.size x).setRow (w.heap.size + 1) y) (w.heap.size + 1) 30 y ∧
    Below w.heap.size w ((((w.alloc (.cells r0 30)).alloc (.cells r0 30)).setRow w.heap.size x).setRow (w.heap.size + 1) y) ∧ (∀ v p a, Ra w v p a → Ra ((((w.alloc (.cells r0 30)).alloc (.cells r0 30)).setRow w.heap.size x).setRow (w.heap.size + 1) y) v p a) := by
  have h1 : Blk ((w.alloc (.cells r0 30)).alloc (.cells r0 30)) w.heap.size 30 r0 := (Blk.new w 30 r0).alloc _
  have h2 : Blk ((w.alloc (.cells r0 30)).alloc (.cells r0 30)) (w.heap.size + 1) 30 r0 := by
    have := Blk.new (w.alloc (.cells r0 30)) 30 r0
    simpa using this
  have hb : Below w.heap.size w ((w.alloc (.cells r0 30)).alloc (.cells r0 30)) := ((Below.refl _ _).alloc (Nat.le_refl _) _).alloc (by simp) _
  have k1 : Blk (((w.alloc (.cells r0 30)).alloc (.cells r0 30)).setRow w.heap.size x) (w.heap.size + 1) 30 r0 := h2.setRow_other (by omega) _
  exact ⟨h1.slot, k1.slot, (h1.setRow_same x).setRow_other (by omega) _, k1.setRow_same y, below_row (below_row hb (Nat.le_refl _) _) (Nat.le_succ _) _, fun v p a h => ((h.below hb).setRow h1 _).setRow k1 _⟩

set_option maxRecDepth 100000 in
set_option maxHeartbeats 8000000 in
theorem floored_c {w : World} {v u : Value} {p : Bool} {a b : Nat} (hb : 0 < b) (ha : dlen (a + 1) ≤ 900) (hb9 : dlen (b + b) ≤ 900) (h1 : Ra w v p a) (h2 : Ra w u false b) :
    Calls Tryz.prog 12 #[v, u] w fun e w' => ∃ r r', e = .returned (.tuple #[r, r']) ∧ (∃ q n, Ra w' r q n) ∧ Ra w' r' (fl p a b).1 (fl p a b).2 ∧ Below w.heap.size w w' := by
  have h1' := h1
  have h2' := h2
  obtain ⟨x, y, rfl, hx, hy⟩ := h1
  obtain ⟨x', y', rfl, hx', hy'⟩ := h2
  obtain ⟨w1, hw1⟩ : ∃ w1, (((w.alloc (.cells #[.bool p, x, y] 30)).alloc (.cells #[.bool false, x', y'] 30)).alloc (.cells r0 30)).alloc (.cells r0 30) = w1 := ⟨_, rfl⟩
  have HW : Hid ((((w.alloc (.cells #[.bool p, x, y] 30)).alloc (.cells #[.bool false, x', y'] 30)).alloc (.cells r0 30)).alloc (.cells r0 30) = w1) := hw1
  obtain ⟨hB1, hB2, hB3, hB4, hb0⟩ := four30 w #[.bool p, x, y] #[.bool false, x', y'] r0 r0
  rw [hw1] at hB1 hB2 hB3 hB4 hb0
  have HD : Hid (Calls Tryz.prog 23 #[.agg #[.bool p, x, y], .agg #[.bool false, x', y']] w1 fun e w' => ∃ r r', e = .returned (.tuple #[r, r']) ∧ Ra w' r (p && decide (0 < a / b)) (a / b) ∧ Ra w' r' (p && decide (0 < a % b)) (a % b) ∧ Below w1.heap.size w1 w') :=
    divided_c hb (Nat.le_trans (dlen_mono (Nat.le_succ a)) ha) (Nat.le_trans (dlen_mono (Nat.le_add_left b b)) hb9) (h1'.below hb0) (h2'.below hb0)
  have HB1 : Hid (Blk w1 w.heap.size 30 #[.bool p, x, y]) := hB1
  have HB2 : Hid (Blk w1 (w.heap.size + 1) 30 #[.bool false, x', y']) := hB2
  have HB3 : Hid (Blk w1 (w.heap.size + 1 + 1) 30 r0) := hB3
  have HB4 : Hid (Blk w1 (w.heap.size + 1 + 1 + 1) 30 r0) := hB4
  have HH : Hid (Below w.heap.size w w1) := hb0
  have HR2 : Hid (Ra w1 (.agg #[.bool false, x', y']) false b) := h2'.below hb0
  have HF1 : Hid (Fit (a / b) 1) := ⟨Nat.le_trans (dlen_mono (Nat.le_trans (Nat.div_le_self a b) (Nat.le_succ a))) ha, by decide, Nat.le_trans (dlen_mono (Nat.succ_le_succ (Nat.div_le_self a b))) ha⟩
  have HF2 : Hid (Fit (a % b) b) := by
    have hlt := Nat.mod_lt a hb
    exact ⟨Nat.le_trans (dlen_mono (Nat.le_trans (Nat.le_of_lt hlt) (Nat.le_add_left b b))) hb9, Nat.le_trans (dlen_mono (Nat.le_add_left b b)) hb9, Nat.le_trans (dlen_mono (Nat.add_le_add_right (Nat.le_of_lt hlt) b)) hb9⟩
  obtain ⟨A, c, rfl⟩ := hx.form
  obtain ⟨A', c', rfl⟩ := hy.form
  obtain ⟨B, d, rfl⟩ := hx'.form
  obtain ⟨B', d', rfl⟩ := hy'.form
  obtain ⟨na, hna⟩ : ∃ na, dlen a = na := ⟨_, rfl⟩
  obtain ⟨nb, hnb⟩ : ∃ nb, dlen b = nb := ⟨_, rfl⟩
  obtain ⟨n1, hn1⟩ : ∃ n1, dlen 1 = n1 := ⟨_, rfl⟩
  rw [hna, hn1] at HW HB1 HD ⊢
  rw [hnb] at HW HB2 HD HR2 ⊢
  rw [hn1] at HB2 HR2
  clear hx hy hx' hy' hw1 hB1 hB2 hB3 hB4 hb0 hna hnb hn1 ha hb9 hb h1' h2'
  have c1 := HB1.out.cells
  have c2 := HB2.out.cells
  go_enter Tryz.func12, Tryz.ntmps12
  go_wp2_with fail
  rw [HW.out]
  refine HD.out.mono ?_
  rintro e wa ⟨r, r', rfl, hq, hr, hba⟩
  obtain ⟨X, nx, cx, X', nx', cx', rfl⟩ := hq.form
  obtain ⟨Y, ny, cy, Y', ny', cy', rfl⟩ := hr.form
  obtain ⟨sq, hsq⟩ : ∃ s, (p && decide (0 < a / b)) = s := ⟨_, rfl⟩
  obtain ⟨sr, hsr⟩ : ∃ s, (p && decide (0 < a % b)) = s := ⟨_, rfl⟩
  rw [hsq] at hq ⊢
  rw [hsr] at hr ⊢
  have HSR : Hid ((p && decide (0 < a % b)) = sr) := hsr
  obtain ⟨hS1, hS2, hB6, hB7, hbw, hra⟩ := two_new wa #[.bool sq, .slice X nx cx, .slice X' nx' cx'] #[.bool sr, .slice Y ny cy, .slice Y' ny' cy']
  have hq2 := hra _ _ _ hq
  have hr2 := hra _ _ _ hr
  obtain ⟨wb, hwb⟩ : ∃ wb, ((((wa.alloc (.cells r0 30)).alloc (.cells r0 30)).setRow wa.heap.size #[.bool sq, .slice X nx cx, .slice X' nx' cx']).setRow (wa.heap.size + 1) #[.bool sr, .slice Y ny cy, .slice Y' ny' cy']) = wb := ⟨_, rfl⟩
  rw [hwb] at hq2 hr2 hB6 hB7 hbw
  have HWB : Hid (((((wa.alloc (.cells r0 30)).alloc (.cells r0 30)).setRow wa.heap.size #[.bool sq, .slice X nx cx, .slice X' nx' cx']).setRow (wa.heap.size + 1) #[.bool sr, .slice Y ny cy, .slice Y' ny' cy']) = wb) := hwb
  have hbb : Below w1.heap.size w1 wb := hba.trans (hbw.mono hba.size)
  have hlt : w.heap.size + 1 + 1 + 1 < wa.heap.size := (Blk.below' HB4.out hba).lt
  have HQ : Hid (Ra wb (.agg #[.bool sq, .slice X nx cx, .slice X' nx' cx']) sq (a / b)) := hq2
  have HR : Hid (Ra wb (.agg #[.bool sr, .slice Y ny cy, .slice Y' ny' cy']) sr (a % b)) := hr2
  have HB6 : Hid (Blk wb wa.heap.size 30 #[.bool sq, .slice X nx cx, .slice X' nx' cx']) := hB6
  have HB7 : Hid (Blk wb (wa.heap.size + 1) 30 #[.bool sr, .slice Y ny cy, .slice Y' ny' cy']) := hB7
  replace HB2 : Hid (Blk wb _ _ _) := Blk.below' HB2.out hbb
  replace HB3 : Hid (Blk wb _ _ _) := Blk.below' HB3.out hbb
  replace HB4 : Hid (Blk wb _ _ _) := Blk.below' HB4.out hbb
  replace HR2 : Hid (Ra wb _ _ _) := HR2.out.below hbb
  replace HH : Hid (Below w.heap.size w wb) := HH.out.trans (hbb.mono HH.out.size)
  clear c1 c2 HW HD hsq hsr hq hr hra hq2 hr2 hB6 hB7 hbw hwb hbb hba HB1
  go_upto_region 2 with fail
  rw [HWB.out]
  have HL : Hid (w.heap.size + 1 + 1 + 1 < wa.heap.size) := hlt
  obtain ⟨g, hg⟩ : ∃ g, wa.heap.size = g := ⟨_, rfl⟩
  rw [hg] at HB6 HB7 HL ⊢
  clear hg HWB hS1 hS2 hlt
  have c7 := HB7.out.cells
  go_wp2_with fail
  refine (signOf_c HR.out).mono ?_
  rintro e wc ⟨rfl, hbc⟩
  replace HB6 : Hid (Blk wc _ _ _) := Blk.below' HB6.out hbc
  replace HB7 : Hid (Blk wc _ _ _) := Blk.below' HB7.out hbc
  replace HB2 : Hid (Blk wc _ _ _) := Blk.below' HB2.out hbc
  replace HB3 : Hid (Blk wc _ _ _) := Blk.below' HB3.out hbc
  replace HB4 : Hid (Blk wc _ _ _) := Blk.below' HB4.out hbc
  replace HQ : Hid (Ra wc _ _ _) := HQ.out.below hbc
  replace HR : Hid (Ra wc _ _ _) := HR.out.below hbc
  replace HR2 : Hid (Ra wc _ _ _) := HR2.out.below hbc
  replace HH : Hid (Below w.heap.size w wc) := HH.out.trans (hbc.mono HH.out.size)
  clear hbc c7
  obtain ⟨K, hK⟩ : ∃ K : Int, (if a % b = 0 then 0 else if sr = true then -1 else 1) = K := ⟨_, rfl⟩
  rw [hK]
  have HC : Hid (Below wc.heap.size wc wc.drew) := ⟨rfl, rfl, rfl, Nat.le_refl _, fun _ _ => rfl⟩
  cases sr with
  | true =>
    have hK0 : K < 0 := by
      have h9 := HSR.out
      simp only [Bool.and_eq_true, decide_eq_true_eq] at h9
      rw [← hK, if_neg (by omega), if_pos rfl]
      decide
    have HFL : Hid (fl p a b = pn true false (a % b) b) := if_pos HSR.out
    clear hK
    go_wp2_with fail
    go_region_held3 (fun w' => Two wc (w.heap.size + 1 + 1) (w.heap.size + 1 + 1 + 1) w' ∧ (∀ j, w'.cell? ⟨g, j, none⟩ = (#[.bool sq, .slice X nx cx, .slice X' nx' cx'] : Array Value)[j]?) ∧ (∀ j, w'.cell? ⟨g + 1, j, none⟩ = (#[.bool true, .slice Y ny cy, .slice Y' ny' cy'] : Array Value)[j]?) ∧ (∀ j, w'.cell? ⟨w.heap.size + 1, j, none⟩ = (#[.bool false, .slice B nb d, .slice B' n1 d'] : Array Value)[j]?) ∧ Slot w' (w.heap.size + 1 + 1) 30 3 ∧ Slot w' (w.heap.size + 1 + 1 + 1) 30 3)
      ((refine (fun hT => ⟨hT, (hT.blk HB6.out (by have := HL.out; omega) (by have := HL.out; omega)).cells, (hT.blk HB7.out (by have := HL.out; omega) (by have := HL.out; omega)).cells, (hT.blk HB2.out (by omega) (by omega)).cells, hT.s1, hT.s2⟩ : Two wc (w.heap.size + 1 + 1) (w.heap.size + 1 + 1 + 1) _ → _) ?_; first
         | exact Two.of HB3.out HB4.out HC.out
         | exact (Two.of HB3.out HB4.out HC.out).set1 (by omega) rfl
         | exact (Two.of HB3.out HB4.out HC.out).set2 (by omega) rfl
         | exact ((Two.of HB3.out HB4.out HC.out).set1 (by omega) rfl).set2 (by omega) rfl
         | exact ((Two.of HB3.out HB4.out HC.out).set2 (by omega) rfl).set1 (by omega) rfl))
      (first
      | (go_at_call 11; refine (of64_c _).mono ?_; rintro e wn ⟨r1, r2, rfl, hr1, hr2, hbn⟩
         obtain ⟨X1, c1', rfl⟩ := hr1.form
         obtain ⟨Y1, d1', rfl⟩ := hr2.form
         have HO : Hid (Ra wn (.agg #[.bool false, .slice X1 (dlen 1) c1', .slice Y1 (dlen 1) d1']) false 1) := ⟨_, _, rfl, hr1, hr2⟩
         replace HC : Hid (Below wc.heap.size wc wn) := Rg.below_step HC.out hbn
         clear hr1 hr2 hbn)
      | (go_at_call 9; refine (minus_c HF1.out (HQ.out.below HC.out) HO.out).mono ?_; rintro e wn ⟨r1, rfl, hr1', hbn⟩
         obtain ⟨s2, n2, hr1⟩ : ∃ s n, Ra wn r1 s n := ⟨_, _, hr1'⟩
         clear hr1'
         obtain ⟨X2, n2', c2', Y2, m2', d2', rfl⟩ := hr1.form
         have HM : Hid (Ra wn _ _ _) := hr1
         try (replace HP : Hid (Ra wn _ _ _) := HP.out.below hbn)
         replace HC : Hid (Below wc.heap.size wc wn) := Rg.below_step HC.out hbn
         clear hr1 hbn)
      | (go_at_call 22; refine (plus_c HF2.out.1 HF2.out.2.1 HF2.out.2.2 (HR.out.below HC.out) (HR2.out.below HC.out)).mono ?_; rintro e wn ⟨r1, rfl, hr1, hbn⟩
         obtain ⟨s3, hs3⟩ : ∃ s, (pn true false (a % b) b).1 = s := ⟨_, rfl⟩
         have HS3 : Hid ((pn true false (a % b) b).1 = s3) := hs3
         rw [hs3] at hr1
         clear hs3
         obtain ⟨X3, n3', c3', Y3, m3', d3', rfl⟩ := hr1.form
         have HP : Hid (Ra wn _ _ _) := hr1
         try (replace HM : Hid (Ra wn _ _ _) := HM.out.below hbn)
         try (replace HO : Hid (Ra wn _ _ _) := HO.out.below hbn)
         replace HC : Hid (Below wc.heap.size wc wn) := Rg.below_step HC.out hbn
         clear hr1 hbn))
    all_goals
      go_wp2_with fail
      have hT := Two.both (x := #[.bool s2, .slice X2 n2' c2', .slice Y2 m2' d2']) (y := #[.bool s3, .slice X3 n3' c3', .slice Y3 m3' d3']) (Blk.below' HB3.out HC.out) (Blk.below' HB4.out HC.out) (by omega) (HH.out.trans (HC.out.mono HH.out.size)) (by omega) (by omega) HM.out HP.out
      first
        | exact ret3030 rfl rfl rfl rfl hT.1.1 hT.1.2.1 rfl rfl ⟨_, _, rfl, ⟨_, _, hT.1.2.2.1⟩, by rw [HFL.out, HS3.out]; exact hT.1.2.2.2.1, hT.1.2.2.2.2⟩
        | exact ret3030 rfl rfl rfl rfl hT.2.1 hT.2.2.1 rfl rfl ⟨_, _, rfl, ⟨_, _, hT.2.2.2.1⟩, by rw [HFL.out, HS3.out]; exact hT.2.2.2.2.1, hT.2.2.2.2.2⟩
  | false =>
    have hK0 : ¬ K < 0 := by rw [← hK]; split <;> decide
    have HFL : Hid (fl p a b = (false, a % b)) := if_neg (by rw [HSR.out]; decide)
    clear hK
    go_wp2_with fail
    go_region_held3 (fun w' => Two wc (w.heap.size + 1 + 1) (w.heap.size + 1 + 1 + 1) w' ∧ (∀ j, w'.cell? ⟨g, j, none⟩ = (#[.bool sq, .slice X nx cx, .slice X' nx' cx'] : Array Value)[j]?) ∧ (∀ j, w'.cell? ⟨g + 1, j, none⟩ = (#[.bool false, .slice Y ny cy, .slice Y' ny' cy'] : Array Value)[j]?) ∧ (∀ j, w'.cell? ⟨w.heap.size + 1, j, none⟩ = (#[.bool false, .slice B nb d, .slice B' n1 d'] : Array Value)[j]?) ∧ Slot w' (w.heap.size + 1 + 1) 30 3 ∧ Slot w' (w.heap.size + 1 + 1 + 1) 30 3)
      ((refine (fun hT => ⟨hT, (hT.blk HB6.out (by have := HL.out; omega) (by have := HL.out; omega)).cells, (hT.blk HB7.out (by have := HL.out; omega) (by have := HL.out; omega)).cells, (hT.blk HB2.out (by omega) (by omega)).cells, hT.s1, hT.s2⟩ : Two wc (w.heap.size + 1 + 1) (w.heap.size + 1 + 1 + 1) _ → _) ?_; first
         | exact Two.of HB3.out HB4.out HC.out
         | exact (Two.of HB3.out HB4.out HC.out).set1 (by omega) rfl
         | exact (Two.of HB3.out HB4.out HC.out).set2 (by omega) rfl
         | exact ((Two.of HB3.out HB4.out HC.out).set1 (by omega) rfl).set2 (by omega) rfl
         | exact ((Two.of HB3.out HB4.out HC.out).set2 (by omega) rfl).set1 (by omega) rfl))
      (fail)
    all_goals
      go_wp2_with fail
      have hT := Two.both (x := #[.bool sq, .slice X nx cx, .slice X' nx' cx']) (y := #[.bool false, .slice Y ny cy, .slice Y' ny' cy']) (Blk.below' HB3.out HC.out) (Blk.below' HB4.out HC.out) (by omega) (HH.out.trans (HC.out.mono HH.out.size)) (by omega) (by omega) (HQ.out.below HC.out) (HR.out.below HC.out)
      first
        | exact ret3030 rfl rfl rfl rfl hT.1.1 hT.1.2.1 rfl rfl ⟨_, _, rfl, ⟨_, _, hT.1.2.2.1⟩, by rw [HFL.out]; exact hT.1.2.2.2.1, hT.1.2.2.2.2⟩
        | exact ret3030 rfl rfl rfl rfl hT.2.1 hT.2.2.1 rfl rfl ⟨_, _, rfl, ⟨_, _, hT.2.2.2.1⟩, by rw [HFL.out]; exact hT.2.2.2.2.1, hT.2.2.2.2.2⟩
end Sp
end Go.Proofs.YtdpnoaaeplgdjaaGreatDoor
