/-
  THE WALK OF package spec's Minus, Divided, and of the law's floored.
-/
import Derived.Test.YtdpnoaaeplgdjaaGreatDoorRd
import Derived.Test.YtdpnoaaeplgdjaaGreatDoorReF
namespace Go.Proofs.YtdpnoaaeplgdjaaGreatDoor
open Go.RowKit Go.Proofs.YtdpnoaaeplgdjaaGreatDoorW.PrintWords Go.Proofs.YtdpnoaaeplgdjaaGreatDoorW.PrintMore
namespace Sp
open Rg Dg

/-- How long the numbers may be that go into a sum. -/
def Fit (a b : Nat) : Prop := dlen a ≤ 900 ∧ dlen b ≤ 900 ∧ dlen (a + b) ≤ 900

set_option maxRecDepth 100000 in
set_option maxHeartbeats 8000000 in
theorem minus_c {w : World} {v u : Value} {p q : Bool} {a b : Nat} (hf : Fit a b) (h1 : Ra w v p a) (h2 : Ra w u q b) :
    Calls Tryz.prog 9 #[v, u] w fun e w' => ∃ r, e = .returned r ∧ Ra w' r (pn p (!q && decide (0 < b)) a b).1 (pn p (!q && decide (0 < b)) a b).2 ∧ Below w.heap.size w w' := by
  have h1' := h1
  have h2' := h2
  obtain ⟨x, y, rfl, hx, hy⟩ := h1
  obtain ⟨x', y', rfl, hx', hy'⟩ := h2
  obtain ⟨w1, hw1⟩ : ∃ w1, ((w.alloc (.cells #[.bool p, x, y] 30)).alloc (.cells #[.bool q, x', y'] 30)).alloc (.cells r0 30) = w1 := ⟨_, rfl⟩
  have HW : Hid (((w.alloc (.cells #[.bool p, x, y] 30)).alloc (.cells #[.bool q, x', y'] 30)).alloc (.cells r0 30) = w1) := hw1
  obtain ⟨hB1, hB2, hB3, hb0⟩ := three30 w #[.bool p, x, y] #[.bool q, x', y'] r0
  rw [hw1] at hB1 hB2 hB3 hb0
  have HB1 : Hid (Blk w1 w.heap.size 30 #[.bool p, x, y]) := hB1
  have HB2 : Hid (Blk w1 (w.heap.size + 1) 30 #[.bool q, x', y']) := hB2
  have HB3 : Hid (Blk w1 (w.heap.size + 1 + 1) 30 r0) := hB3
  have HH : Hid (Below w.heap.size w w1) := hb0
  have HR1 : Hid (Ra w1.drew (.agg #[.bool p, x, y]) p a) := h1'.below hb0.drew
  have HR2 : Hid (Ra w1.drew (.agg #[.bool q, x', y']) q b) := h2'.below hb0.drew
  have HF : Hid (Fit a b) := hf
  obtain ⟨A, c, rfl⟩ := hx.form
  obtain ⟨A', c', rfl⟩ := hy.form
  obtain ⟨B, d, rfl⟩ := hx'.form
  obtain ⟨B', d', rfl⟩ := hy'.form
  obtain ⟨na, hna⟩ : ∃ na, dlen a = na := ⟨_, rfl⟩
  obtain ⟨nb, hnb⟩ : ∃ nb, dlen b = nb := ⟨_, rfl⟩
  obtain ⟨n1, hn1⟩ : ∃ n1, dlen 1 = n1 := ⟨_, rfl⟩
  rw [hna, hn1] at HW HB1 HR1 ⊢
  rw [hnb] at HW HB2 HR2 ⊢
  rw [hn1] at HB2 HR2
  clear hx hy hx' hy' hw1 hB1 hB2 hB3 hb0 hna hnb hn1 hf h1' h2'
  have HC0 : Hid (Below w1.heap.size w1 w1.drew) := ⟨rfl, rfl, rfl, Nat.le_refl _, fun _ _ => rfl⟩
  go_enter Tryz.func9, Tryz.ntmps9
  go_wp2_with fail
  rw [HW.out]
  go_region_held3 (fun w' => (∀ j, w'.cell? ⟨w.heap.size, j, none⟩ = (#[.bool p, .slice A na c, .slice A' n1 c'] : Array Value)[j]?) ∧ (∀ j, w'.cell? ⟨w.heap.size + 1, j, none⟩ = (#[.bool q, .slice B nb d, .slice B' n1 d'] : Array Value)[j]?) ∧ Slot w' (w.heap.size + 1 + 1) 30 3 ∧ Only w1 (w.heap.size + 1 + 1) 30 3 w')
    (first
      | (exact ⟨HB1.out.cells, HB2.out.cells, HB3.out.slot, Only.start HB3.out.slot⟩)
      | (exact ⟨(Blk.below' HB1.out HBM.out).cells, (Blk.below' HB2.out HBM.out).cells, (Blk.below' HB3.out HBM.out).slot, (Only.start HB3.out.slot).below HBB.out⟩)
      | (exact ⟨(Blk.below' HB1.out HBZ.out).cells, (Blk.below' HB2.out HBZ.out).cells, (Blk.below' HB3.out HBZ.out).slot, (Only.start HB3.out.slot).below HBX.out⟩)
      | (refine (fun hO => ⟨(hO.blk HB1.out (by omega)).cells, (hO.blk HB2.out (by omega)).cells, hO.slot, hO⟩ : Only w1 (w.heap.size + 1 + 1) 30 3 _ → _) ?_; exact Only.setRow ((Only.start HB3.out.slot).below HBX.out) rfl))
    (first
    | (go_at_call 10; refine (negated_c HR2.out).mono ?_; rintro e w2 ⟨r1, rfl, hr1, hb1⟩
       obtain ⟨X, nx, cx, Y, ny, cy, rfl⟩ := hr1.form
       have HN : Hid (Ra w2 _ _ _) := hr1
       have HBB : Hid (Below w1.drew.heap.size w1.drew w2) := hb1
       have HBM : Hid (Below w1.heap.size w1 w2) := Rg.below_step HC0.out hb1
       clear hr1 hb1)
    | (go_at_call 22; refine (plus_c HF.out.1 HF.out.2.1 HF.out.2.2 (HR1.out.below HBB.out) HN.out).mono ?_; rintro e w3 ⟨r2, rfl, hr2, hb2⟩
       obtain ⟨X', nx', cx', Y', ny', cy', rfl⟩ := hr2.form
       have HP : Hid (Ra w3 _ _ _) := hr2
       have HBX : Hid (Below w1.drew.heap.size w1.drew w3) := Rg.below_step HBB.out hb2
       have HBZ : Hid (Below w1.heap.size w1 w3) := Rg.below_step HBM.out hb2
       clear hr2 hb2))
  all_goals
    go_wp2_with fail
    exact ret30 rfl rfl rfl ((Blk.below' HB3.out HBZ.out).setRow_same _) rfl ⟨_, rfl, HP.out.setRow (Blk.below' HB3.out HBZ.out) _, below_row (HH.out.trans (HBZ.out.mono HH.out.size)) (by omega) _⟩
end Sp
end Go.Proofs.YtdpnoaaeplgdjaaGreatDoor
/-
  THE WALK OF package spec's Divided.
-/
namespace Go.Proofs.YtdpnoaaeplgdjaaGreatDoor
open Go.RowKit Go.Proofs.YtdpnoaaeplgdjaaGreatDoorW.PrintWords Go.Proofs.YtdpnoaaeplgdjaaGreatDoorW.PrintMore
namespace Sp
open Rg Dg

/-- From w1 on only the blocks c, d, of three cells each, and what is new may have turned. -/
structure Two (w1 : World) (c d : Nat) (w' : World) : Prop where
  os : w'.os = w1.os
  tape : w'.tape = w1.tape
  output : w'.output = w1.output
  size : w1.heap.size ≤ w'.heap.size
  other : ∀ k, k < w1.heap.size → k ≠ c → k ≠ d → w'.heap[k]? = w1.heap[k]?
  s1 : Slot w' c 30 3
  s2 : Slot w' d 30 3
section
variable {w1 X w' : World} {c d g : Nat} {t : TypeId} {cs cells : Array Value}
theorem Slot.other {n : Nat} (h : Slot X g t n) (hne : g ≠ c) (cells : Array Value) : Slot (X.setRow c cells) g t n := let ⟨cs, hb, e⟩ := h; ⟨cs, hb.setRow_other hne cells, e⟩
theorem Two.of (h1 : Blk w1 c 30 r0) (h2 : Blk w1 d 30 r0) (hb : Below w1.heap.size w1 w') : Two w1 c d w' :=
  ⟨hb.os, hb.tape, hb.output, hb.size, fun k hk _ _ => hb.block k hk, (h1.below' hb).slot, (h2.below' hb).slot⟩
theorem Two.set1 (h : Two w1 c d X) (hne : c ≠ d) (hs : cells.size = 3) : Two w1 c d (X.setRow c cells) :=
  ⟨h.os, h.tape, h.output, by simpa using h.size, fun k hk h1 h2 => (Go.setRow_other X c k cells h1).trans (h.other k hk h1 h2), let ⟨_, hb, _⟩ := h.s1; ⟨cells, hb.setRow_same cells, hs⟩, Slot.other h.s2 hne.symm _⟩
theorem Two.set2 (h : Two w1 c d X) (hne : c ≠ d) (hs : cells.size = 3) : Two w1 c d (X.setRow d cells) :=
  ⟨h.os, h.tape, h.output, by simpa using h.size, fun k hk h1 h2 => (Go.setRow_other X d k cells h2).trans (h.other k hk h1 h2), Slot.other h.s1 hne _, let ⟨_, hb, _⟩ := h.s2; ⟨cells, hb.setRow_same cells, hs⟩⟩
theorem Two.blk (h : Two w1 c d X) (hb : Blk w1 g t cs) (h1 : g ≠ c) (h2 : g ≠ d) : Blk X g t cs := (h.other g hb.lt h1 h2).trans hb
/-- Both results are laid, in whichever order. -/
theorem Two.both {w : World} {v u : Value} {p q : Bool} {a b : Nat} {x y : Array Value} (h1 : Blk X c 30 r0) (h2 : Blk X d 30 r0) (hne : c ≠ d) (hb : Below w.heap.size w X) (hc : w.heap.size ≤ c) (hd : w.heap.size ≤ d) (hv : Ra X v p a) (hu : Ra X u q b) :
    (Blk ((X.setRow c x).setRow d y) c 30 x ∧ Blk ((X.setRow c x).setRow d y) d 30 y ∧ Ra ((X.setRow c x).setRow d y) v p a ∧ Ra ((X.setRow c x).setRow d y) u q b ∧ Below w.heap.size w ((X.setRow c x).setRow d y)) ∧
    (Blk ((X.setRow d y).setRow c x) c 30 x ∧ Blk ((X.setRow d y).setRow c x) d 30 y ∧ Ra ((X.setRow d y).setRow c x) v p a ∧ Ra ((X.setRow d y).setRow c x) u q b ∧ Below w.heap.size w ((X.setRow d y).setRow c x)) := by
  have k1 : Blk (X.setRow c x) d 30 r0 := h2.setRow_other hne.symm _
  have k2 : Blk (X.setRow d y) c 30 r0 := h1.setRow_other hne _
  exact ⟨⟨(h1.setRow_same x).setRow_other hne _, k1.setRow_same y, (hv.setRow h1 _).setRow k1 _, (hu.setRow h1 _).setRow k1 _, below_row (below_row hb hc _) hd _⟩,
    ⟨k2.setRow_same x, (h2.setRow_same y).setRow_other hne.symm _, (hv.setRow h2 _).setRow k2 _, (hu.setRow h2 _).setRow k2 _, below_row (below_row hb hd _) hc _⟩⟩
end

theorem ret3030 {f : Func} {p q : Tmp} {R : Ending → World → Prop} {a : Act} {w : World} (h : f.results = #[.cell p 30, .cell q 30]) (hd : a.defers = []) {g g' : Nat} {cs cs' : Array Value} (hp : a.tmps.getD p undef = .pointer (some ⟨g, 0, none⟩)) (hq : a.tmps.getD q undef = .pointer (some ⟨g', 0, none⟩))
    (hg : Blk w g 30 cs) (hg' : Blk w g' 30 cs') (hs : cs.size = 3) (hs' : cs'.size = 3) (hR : R (.returned (.tuple #[.agg cs, .agg cs'])) w) : bodyPost Tryz.prog f R .ret a w := by
  refine bodyPost_ret ?_ hd hR
  have hp' : a.tmps[p]?.getD undef = .pointer (some ⟨g, 0, none⟩) := by simpa using hp
  have hq' : a.tmps[q]?.getD undef = .pointer (some ⟨g', 0, none⟩) := by simpa using hq
  simp [results, h, hp', hq', asAddr, run_loadVar_row w g 30 30 cs (0, 0) _ hg Tryz.underlying30 rfl (by rw [hs]; exact size30), run_loadVar_row w g' 30 30 cs' (0, 0) _ hg' Tryz.underlying30 rfl (by rw [hs']; exact size30)]

/-- Four structs made one behind the other. -/
theorem four30 (w : World) (x y z u : Array Value) : Blk ((((w.alloc (.cells x 30)).alloc (.cells y 30)).alloc (.cells z 30)).alloc (.cells u 30)) w.heap.size 30 x ∧
    Blk ((((w.alloc (.cells x 30)).alloc (.cells y 30)).alloc (.cells z 30)).alloc (.cells u 30)) (w.heap.size + 1) 30 y ∧ Blk ((((w.alloc (.cells x 30)).alloc (.cells y 30)).alloc (.cells z 30)).alloc (.cells u 30)) (w.heap.size + 1 + 1) 30 z ∧
    Blk ((((w.alloc (.cells x 30)).alloc (.cells y 30)).alloc (.cells z 30)).alloc (.cells u 30)) (w.heap.size + 1 + 1 + 1) 30 u ∧ Below w.heap.size w ((((w.alloc (.cells x 30)).alloc (.cells y 30)).alloc (.cells z 30)).alloc (.cells u 30)) := by
  obtain ⟨h1, h2, h3, h4⟩ := three30 w x y z
  refine ⟨h1.alloc _, h2.alloc _, h3.alloc _, ?_, h4.alloc h4.size _⟩
  have := Blk.new (((w.alloc (.cells x 30)).alloc (.cells y 30)).alloc (.cells z 30)) 30 u
  simpa using this

set_option maxRecDepth 100000 in
set_option maxHeartbeats 8000000 in
theorem divided_c {w : World} {v u : Value} {p : Bool} {a b : Nat} (hb : 0 < b) (ha : dlen a ≤ 900) (hb9 : dlen b ≤ 900) (h1 : Ra w v p a) (h2 : Ra w u false b) :
    Calls Tryz.prog 23 #[v, u] w fun e w' => ∃ r r', e = .returned (.tuple #[r, r']) ∧ Ra w' r (p && decide (0 < a / b)) (a / b) ∧ Ra w' r' (p && decide (0 < a % b)) (a % b) ∧ Below w.heap.size w w' := by
  obtain ⟨x, y, rfl, hx, hy⟩ := h1
  obtain ⟨x', y', rfl, hx', hy'⟩ := h2
  obtain ⟨w1, hw1⟩ : ∃ w1, (((w.alloc (.cells #[.bool p, x, y] 30)).alloc (.cells #[.bool false, x', y'] 30)).alloc (.cells r0 30)).alloc (.cells r0 30) = w1 := ⟨_, rfl⟩
  have HW : Hid ((((w.alloc (.cells #[.bool p, x, y] 30)).alloc (.cells #[.bool false, x', y'] 30)).alloc (.cells r0 30)).alloc (.cells r0 30) = w1) := hw1
  obtain ⟨hB1, hB2, hB3, hB4, hb0⟩ := four30 w #[.bool p, x, y] #[.bool false, x', y'] r0 r0
  rw [hw1] at hB1 hB2 hB3 hB4 hb0
  have HD : Hid (Calls Tryz.prog 42 #[x, x'] w1 fun e w' => ∃ r r', e = .returned (.tuple #[r, r']) ∧ Ds w' r (a / b) ∧ Ds w' r' (a % b) ∧ Below w1.heap.size w1 w') := divMod_c hb ha hb9 (hx.below hb0) (hx'.below hb0)
  have HB1 : Hid (Blk w1 w.heap.size 30 #[.bool p, x, y]) := hB1
  have HB2 : Hid (Blk w1 (w.heap.size + 1) 30 #[.bool false, x', y']) := hB2
  have HB3 : Hid (Blk w1 (w.heap.size + 1 + 1) 30 r0) := hB3
  have HB4 : Hid (Blk w1 (w.heap.size + 1 + 1 + 1) 30 r0) := hB4
  have HH : Hid (Below w.heap.size w w1) := hb0
  obtain ⟨A, c, rfl⟩ := hx.form
  obtain ⟨A', c', rfl⟩ := hy.form
  obtain ⟨B, d, rfl⟩ := hx'.form
  obtain ⟨B', d', rfl⟩ := hy'.form
  obtain ⟨na, hna⟩ : ∃ na, dlen a = na := ⟨_, rfl⟩
  obtain ⟨nb, hnb⟩ : ∃ nb, dlen b = nb := ⟨_, rfl⟩
  obtain ⟨n1, hn1⟩ : ∃ n1, dlen 1 = n1 := ⟨_, rfl⟩
  rw [hna, hn1] at HW HB1 ⊢
  rw [hna] at HD
  rw [hnb] at HW HB2 HD ⊢
  rw [hn1] at HB2
  clear hx hy hx' hy' hw1 hB1 hB2 hB3 hB4 hb0 hna hnb hn1 ha hb9 hb
  have c1 := cell1 HB1.out
  have c2 := cell1 HB2.out
  obtain ⟨sq, hsq⟩ : ∃ s, decide (0 < a / b) = s := ⟨_, rfl⟩
  obtain ⟨sr, hsr⟩ : ∃ s, decide (0 < a % b) = s := ⟨_, rfl⟩
  have HSQ : Hid (decide (0 < a / b) = sq) := hsq
  have HSR : Hid (decide (0 < a % b) = sr) := hsr
  rw [hsq, hsr]
  clear hsq hsr
  go_enter Tryz.func23, Tryz.ntmps23
  go_wp2_with fail
  rw [HW.out]
  refine HD.out.mono ?_
  rintro e wa ⟨r, r', rfl, hq, hr, hba⟩
  obtain ⟨X, cx, rfl⟩ := hq.form
  obtain ⟨Y, cy, rfl⟩ := hr.form
  have HQ : Hid (Ds wa (.slice X (dlen (a / b)) cx) (a / b)) := hq
  have HR : Hid (Ds wa (.slice Y (dlen (a % b)) cy) (a % b)) := hr
  replace HB1 : Hid (Blk wa _ _ _) := Blk.below' HB1.out hba
  replace HB2 : Hid (Blk wa _ _ _) := Blk.below' HB2.out hba
  replace HB3 : Hid (Blk wa _ _ _) := Blk.below' HB3.out hba
  replace HB4 : Hid (Blk wa _ _ _) := Blk.below' HB4.out hba
  replace HH : Hid (Below w.heap.size w wa) := HH.out.trans (hba.mono HH.out.size)
  obtain ⟨nx, hnx⟩ : ∃ n, dlen (a / b) = n := ⟨_, rfl⟩
  obtain ⟨ny, hny⟩ : ∃ n, dlen (a % b) = n := ⟨_, rfl⟩
  rw [hnx] at HQ ⊢
  rw [hny] at HR ⊢
  clear hq hr hba c1 c2 HW HD hnx hny
  have HC : Hid (Below wa.heap.size wa wa.drew) := ⟨rfl, rfl, rfl, Nat.le_refl _, fun _ _ => rfl⟩
  cases p
  case false =>
    go_wp2_with fail
    go_region_held3 (fun w' => Two wa (w.heap.size + 1 + 1) (w.heap.size + 1 + 1 + 1) w' ∧ w'.cell? ⟨w.heap.size, 0, none⟩ = some (.bool false) ∧ w'.cell? ⟨w.heap.size + 1, 0, none⟩ = some (.bool false) ∧ Slot w' (w.heap.size + 1 + 1) 30 3 ∧ Slot w' (w.heap.size + 1 + 1 + 1) 30 3)
      ((refine (fun hT => ⟨hT, cell0 (hT.blk HB1.out (by omega) (by omega)), cell0 (hT.blk HB2.out (by omega) (by omega)), hT.s1, hT.s2⟩ : Two wa (w.heap.size + 1 + 1) (w.heap.size + 1 + 1 + 1) _ → _) ?_; first
         | exact Two.of HB3.out HB4.out HC.out
         | exact (Two.of HB3.out HB4.out HC.out).set1 (by omega) rfl
         | exact (Two.of HB3.out HB4.out HC.out).set2 (by omega) rfl
         | exact ((Two.of HB3.out HB4.out HC.out).set1 (by omega) rfl).set2 (by omega) rfl
         | exact ((Two.of HB3.out HB4.out HC.out).set2 (by omega) rfl).set1 (by omega) rfl))
      (first
      | (go_at_call_of 7 (Value.slice X nx cx); refine (whole_c (HQ.out.below HC.out) _).mono ?_; rintro e wn ⟨r1, rfl, hr1, hbn⟩
         rw [HSQ.out] at hr1
         obtain ⟨X1, n1', c1', Y1, m1', d1', rfl⟩ := hr1.form
         have HR1 : Hid (Ra wn _ _ _) := hr1
         try (replace HR2 : Hid (Ra wn _ _ _) := HR2.out.below hbn)
         replace HC : Hid (Below wa.heap.size wa wn) := Rg.below_step HC.out hbn
         clear hr1 hbn)
      | (go_at_call_of 7 (Value.slice Y ny cy); refine (whole_c (HR.out.below HC.out) _).mono ?_; rintro e wn ⟨r2, rfl, hr2, hbn⟩
         rw [HSR.out] at hr2
         obtain ⟨X2, n2', c2', Y2, m2', d2', rfl⟩ := hr2.form
         have HR2 : Hid (Ra wn _ _ _) := hr2
         try (replace HR1 : Hid (Ra wn _ _ _) := HR1.out.below hbn)
         replace HC : Hid (Below wa.heap.size wa wn) := Rg.below_step HC.out hbn
         clear hr2 hbn))
    all_goals
      go_wp2_with fail
      have hT := Two.both (x := #[.bool false, .slice X1 n1' c1', .slice Y1 m1' d1']) (y := #[.bool false, .slice X2 n2' c2', .slice Y2 m2' d2']) (Blk.below' HB3.out HC.out) (Blk.below' HB4.out HC.out) (by omega) (HH.out.trans (HC.out.mono HH.out.size)) (by omega) (by omega) HR1.out HR2.out
      first
        | exact ret3030 rfl rfl rfl rfl hT.1.1 hT.1.2.1 rfl rfl ⟨_, _, rfl, hT.1.2.2.1, hT.1.2.2.2.1, hT.1.2.2.2.2⟩
        | exact ret3030 rfl rfl rfl rfl hT.2.1 hT.2.2.1 rfl rfl ⟨_, _, rfl, hT.2.2.2.1, hT.2.2.2.2.1, hT.2.2.2.2.2⟩
  case true =>
    go_wp2_with fail
    go_region_held3 (fun w' => Two wa (w.heap.size + 1 + 1) (w.heap.size + 1 + 1 + 1) w' ∧ w'.cell? ⟨w.heap.size, 0, none⟩ = some (.bool true) ∧ w'.cell? ⟨w.heap.size + 1, 0, none⟩ = some (.bool false) ∧ Slot w' (w.heap.size + 1 + 1) 30 3 ∧ Slot w' (w.heap.size + 1 + 1 + 1) 30 3)
      ((refine (fun hT => ⟨hT, cell0 (hT.blk HB1.out (by omega) (by omega)), cell0 (hT.blk HB2.out (by omega) (by omega)), hT.s1, hT.s2⟩ : Two wa (w.heap.size + 1 + 1) (w.heap.size + 1 + 1 + 1) _ → _) ?_; first
         | exact Two.of HB3.out HB4.out HC.out
         | exact (Two.of HB3.out HB4.out HC.out).set1 (by omega) rfl
         | exact (Two.of HB3.out HB4.out HC.out).set2 (by omega) rfl
         | exact ((Two.of HB3.out HB4.out HC.out).set1 (by omega) rfl).set2 (by omega) rfl
         | exact ((Two.of HB3.out HB4.out HC.out).set2 (by omega) rfl).set1 (by omega) rfl))
      (first
      | (go_at_call_of 7 (Value.slice X nx cx); refine (whole_c (HQ.out.below HC.out) _).mono ?_; rintro e wn ⟨r1, rfl, hr1, hbn⟩
         rw [HSQ.out] at hr1
         obtain ⟨X1, n1', c1', Y1, m1', d1', rfl⟩ := hr1.form
         have HR1 : Hid (Ra wn _ _ _) := hr1
         try (replace HR2 : Hid (Ra wn _ _ _) := HR2.out.below hbn)
         replace HC : Hid (Below wa.heap.size wa wn) := Rg.below_step HC.out hbn
         clear hr1 hbn)
      | (go_at_call_of 7 (Value.slice Y ny cy); refine (whole_c (HR.out.below HC.out) _).mono ?_; rintro e wn ⟨r2, rfl, hr2, hbn⟩
         rw [HSR.out] at hr2
         obtain ⟨X2, n2', c2', Y2, m2', d2', rfl⟩ := hr2.form
         have HR2 : Hid (Ra wn _ _ _) := hr2
         try (replace HR1 : Hid (Ra wn _ _ _) := HR1.out.below hbn)
         replace HC : Hid (Below wa.heap.size wa wn) := Rg.below_step HC.out hbn
         clear hr2 hbn))
    all_goals
      go_wp2_with fail
      have hT := Two.both (x := #[.bool sq, .slice X1 n1' c1', .slice Y1 m1' d1']) (y := #[.bool sr, .slice X2 n2' c2', .slice Y2 m2' d2']) (Blk.below' HB3.out HC.out) (Blk.below' HB4.out HC.out) (by omega) (HH.out.trans (HC.out.mono HH.out.size)) (by omega) (by omega) HR1.out HR2.out
      first
        | exact ret3030 rfl rfl rfl rfl hT.1.1 hT.1.2.1 rfl rfl ⟨_, _, rfl, hT.1.2.2.1, hT.1.2.2.2.1, hT.1.2.2.2.2⟩
        | exact ret3030 rfl rfl rfl rfl hT.2.1 hT.2.2.1 rfl rfl ⟨_, _, rfl, hT.2.2.2.1, hT.2.2.2.2.1, hT.2.2.2.2.2⟩
end Sp
end Go.Proofs.YtdpnoaaeplgdjaaGreatDoor
