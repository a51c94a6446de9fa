/-
  THE WALK OF strconv.unquote at a text in double quotes.
-/
import Derived.Test.YtdpnoaaeplgdjaaGreatDoorUv2
import Derived.Deep.LoopGhost
import Derived.Below
import Derived.OwnWalk
import Derived.Laws.IdiomStrings
import Derived.Laws.BytesArg
namespace Go.Proofs.YtdpnoaaeplgdjaaGreatDoor
open Go.RowKit
namespace Uq

/-- Three results. -/
theorem ret3 {P : Program} {f : Func} {t u v : Tmp} {R : Ending → World → Prop} {a : Act} {w : World} (h : f.results = #[.tmp t, .tmp u, .tmp v]) (hd : a.defers = [])
    (hR : R (.returned (.tuple #[a.tmps.getD t undef, a.tmps.getD u undef, a.tmps.getD v undef])) w) : bodyPost P f R .ret a w :=
  bodyPost_ret (by simp [results, h]) hd hR

/-- ValidString says yes. -/
def VA (s : ByteArray) : Prop := ∀ w : World, Calls Tryz.prog 240 #[.string s] w fun e w' => e = .returned (.bool true) ∧ Below w.heap.size w w'

set_option maxRecDepth 100000 in
set_option maxHeartbeats 4000000 in
theorem unq_raw (s : ByteArray) (n : Nat) (hn : s.size = n + 2) (hm : n ≤ 1000) (w : World) (h0 : s[0].toNat = 34)
    (hi : Lib.indexByte (s.extract 1 (n + 2)).data.toList (34 : Int).toNat.toUInt8 = (n : Int)) (h92 : Lib.indexByte s.data.toList (92 : Int).toNat.toUInt8 = -1) (h10 : Lib.indexByte s.data.toList (10 : Int).toNat.toUInt8 = -1)
    (hv : VA (s.extract 1 (n + 1))) :
    Calls Tryz.prog 178 #[.string s, .bool true] w fun e w' => e = .returned (.tuple #[.string (s.extract 1 (n + 1)), .string ByteArray.empty, .nilIface]) ∧ Below w.heap.size w w' := by
  have ef : Hid (s.extract 0 (n + 2) = s) := by rw [← hn]; exact ByteArray.extract_zero_size
  have q0 : 0 < s.size := by omega
  have q1 : ¬ ((s.size : Int) < 2) := by omega
  have q2 : ¬ ((n : Int) < 0) := by omega
  go_enter Tryz.func178, Tryz.ntmps178
  go_wp2_with (go_at_call 238; refine (index_any _ _ (n : Int) hi _).mono ?_; rintro e w1 ⟨rfl, rfl⟩)
  refine (contains_any _ _ (-1) false (by rw [ef.out]; exact h92) rfl _).mono ?_
  rintro e w1 ⟨rfl, rfl⟩
  go_wp2_with fail
  refine (contains_any _ _ (-1) false (by rw [ef.out]; exact h10) rfl _).mono ?_
  rintro e w1 ⟨rfl, rfl⟩
  go_wp2_with (go_at_call 240; refine (hv _).mono ?_; rintro e w2 ⟨rfl, hb2⟩)
  go_quiet (fail)
  go_wp2_with fail
  refine ret3 rfl rfl ⟨?_, below_drewN hb2 _⟩
  have e1 : (s.extract 0 (n + 2)).extract 1 (n + 2 - 1) = s.extract 1 (n + 1) := by rw [ef.out]; rfl
  have e2 : s.extract (n + 2) (n + 2) = ByteArray.empty := by apply ByteArray.ext; simp
  simp only [e1, e2]
  rfl

theorem und48 : Tryz.prog.underlying 48 = some (.slice 5) := by kernel_rfl
theorem und5 : Tryz.prog.underlying 5 = some (.int .u8) := by kernel_rfl
theorem und9 : Tryz.prog.underlying 9 = some .string := by kernel_rfl

/-- A row of bytes of the call's own, as a text. -/
theorem conv_own {w : World} {B : Nat} {v : Value} (pre : List Nat) (h : w.ownsRow B 5 1 v pre.length (pre.map fun x : Nat => Value.int .u8 (x : Int))) (hp : ∀ x ∈ pre, x < 256) :
    (convert 48 9 v).run Tryz.prog w = .ok (.string ⟨(pre.map (·.toUInt8)).toArray⟩) w := by
  rcases h.2 with ⟨rfl, h0⟩ | ⟨g, cap, cur, rfl, _⟩
  · have : pre = [] := List.length_eq_zero_iff.1 h0
    subst this
    exact run_convert_bytes_nil w 48 5 und48 und5 0 0 9 und9
  · have hl : (pre.map (·.toUInt8)).length = pre.length := by simp
    rw [← hl]
    refine run_convert_bytes_back w 48 9 5 ⟨g, 0, none⟩ cap _ und48 und5 und9 fun j hj => ?_
    have hj' : j < pre.length := by simpa using hj
    refine h.cells rfl j _ ?_
    have h256 := hp pre[j] (List.getElem_mem _)
    simp
    exact ⟨pre[j], List.getElem?_eq_getElem hj', by omega⟩

theorem ownsRow_below {w w' : World} {B B' : Nat} {e : TypeId} {size : Nat} {v : Value} {n : Nat} {xs : List Value} (h : w.ownsRow B e size v n xs) (hb : Below B' w w') (hB : B' = w.heap.size) : w'.ownsRow B e size v n xs := by
  subst hB
  exact h.kept (row := none) ⟨hb.os, hb.tape, hb.output, hb.size, fun k hk _ => hb.block k hk⟩ (Decidable.em _)

theorem alloc_sz (w : World) (o : Obj) : (w.alloc o).heap.size = w.heap.size + 1 := by simp

theorem one_cell (w : World) (t : TypeId) (u : Value) : ∀ (j : Nat) (x : Value), [u][j]? = some x → (w.alloc (.cells #[u] t)).cell? ((⟨w.heap.size, 0, none⟩ : Addr).add j) = some x := by
  intro j x hj
  match j, hj with
  | 0, hj => simp at hj; subst hj; simp [Addr.add]

theorem one_one (V : Int) : ∀ u ∈ [Value.int .u8 V], u.oneCell' = true := by
  intro u hu
  simp at hu
  subst hu
  rfl

theorem step_below {w w2 w3 : World} {B : Nat} {e : TypeId} {size n : Nat} {v : Value} {xs : List Value} {o : Obj} (h : Below B w w2) (hown : w2.ownsRow B e size v n xs) (hg : (w2.alloc o).grownBy w3 v.ownBlock) (hB : B = w.heap.size := by rfl) : Below B w w3 := by
  subst hB
  refine (h.alloc h.size o).grown hg ?_ fun k hk => (hown.lt k hk).1
  have := h.size
  simp only [alloc_sz]
  omega

theorem info5 : (Tryz.prog.info? 5).map (fun i => (i.zero, i.size, i.bytes)) = some (some (.int .u8 0), 1, 1) := by kernel_rfl

/-- The rest of a text is read as these values, a piece for each. -/
def Reads : List Nat → ByteArray → Prop
  | [], t => t.data.toList = [34]
  | v :: vs, t => 0 < t.size ∧ (∀ h : 0 < t.size, t[0].toNat ≠ 34 ∧ t[0].toNat ≠ 10) ∧ v < 256 ∧ ∃ (k : Nat) (mb : Bool), (mb = true → v < 128) ∧
      (∀ w : World, Calls Tryz.prog 104 #[.string t, .int .u8 34] w fun e w' => e = .returned (.tuple #[.int .i32 v, .bool mb, .string (t.extract k t.size), .nilIface]) ∧ Below w.heap.size w w') ∧ Reads vs (t.extract k t.size)

set_option maxRecDepth 100000 in
set_option maxHeartbeats 4000000 in
theorem unq_pieces (s : ByteArray) (n : Nat) (hn : s.size = n + 2) (hm : n ≤ 1000) (w : World) (h0 : s[0].toNat = 34)
    (hi : Lib.indexByte (s.extract 1 (n + 2)).data.toList (34 : Int).toNat.toUInt8 = (n : Int)) (q : Int) (hq : (q != -1) = true) (h92 : Lib.indexByte s.data.toList (92 : Int).toNat.toUInt8 = q)
    (vs : List Nat) (hl : vs.length ≤ 100) (hr : Reads vs (s.extract 1 (n + 2))) :
    Calls Tryz.prog 178 #[.string s, .bool true] w fun e w' => e = .returned (.tuple #[.string ⟨(vs.map (·.toUInt8)).toArray⟩, .string ByteArray.empty, .nilIface]) ∧ Below w.heap.size w w' := by
  have ef : Hid (s.extract 0 (n + 2) = s) := by rw [← hn]; exact ByteArray.extract_zero_size
  have q0 : 0 < s.size := by omega
  have q1 : ¬ ((s.size : Int) < 2) := by omega
  have q2 : ¬ ((n : Int) < 0) := by omega
  obtain ⟨T, hT⟩ : ∃ T, s.extract 1 (n + 2) = T := ⟨_, rfl⟩
  rw [hT] at hi hr
  go_enter Tryz.func178, Tryz.ntmps178
  go_wp2_with (go_at_call 238; refine (index_any _ _ (n : Int) hi _).mono ?_; rintro e w1 ⟨rfl, rfl⟩)
  refine (contains_any _ _ q true (by rw [ef.out]; exact h92) hq _).mono ?_
  rintro e w1 ⟨rfl, rfl⟩
  obtain ⟨i0, i5, hz0, hz1, hz2⟩ := info_parts info5
  go_wp2_with (at_make; refine wpList_make_own _ rfl _ _ 48 rfl w.heap.size 5 i0 (.int .u8 0) 1 und48 i5 hz0 hz1 _ _ _ (3 * (n + 2) / 2) rfl rfl (by omega) (by rw [hz2]; omega) (by unfold maxLen; omega) (Nat.le_refl _) ?_)
  intro w1 hown hgrow
  have hb1 : Below w.heap.size w w1 := (Below.refl _ _).grown hgrow (Nat.le_refl _) (by intro k hk; cases hk)
  clear hgrow
  generalize (Value.slice (some ⟨w.heap.size, 0, none⟩) 0 (3 * (n + 2) / 2)) = v0 at hown ⊢
  go_wp2_with fail
  go_loopg [0, 4, 5, 6, 14] (vs.length + 1) (fun gk s0 _ _ _ s14 wx => ∃ (rest pre : List Nat) (t : ByteArray), s0 = .string t ∧ Hid (Reads rest t) ∧ rest.length < gk ∧ Hid (pre ++ rest = vs) ∧ pre.length ≤ 100 ∧ wx.ownsRow w.heap.size 5 1 s14 pre.length (pre.map fun x : Nat => Value.int .u8 (x : Int)) ∧ Hid (∀ x ∈ pre, x < 256) ∧ Below w.heap.size w wx)
  case atStart => exact ⟨vs, [], T, rfl, hr, by omega, rfl, by simp, hown, (fun x hx => absurd hx List.not_mem_nil : ∀ x ∈ ([] : List Nat), x < 256), hb1⟩
  case round =>
    obtain ⟨rest, pre, t, rfl, hrd, hlt, happ, hpl, hown, h256, hbw⟩ := hrel
    cases rest with
    | nil =>
      have e0 : t.data.toList = [34] := hrd.out
      have e1 : t = ⟨#[34]⟩ := by
        apply ByteArray.ext
        apply Array.toList_inj.1
        rw [e0]
      subst e1
      clear hrd e0
      have hc := conv_own pre hown h256.out
      have hp : pre = vs := by simpa using happ.out
      clear happ hown
      subst hp
      go_wp2_with fail
      exact ret3 rfl rfl ⟨rfl, hbw⟩
    | cons v rest =>
      obtain ⟨hpos, hbt, hv, k, mb, hmb, hcall, hr2⟩ : 0 < t.size ∧ (∀ h : 0 < t.size, t[0].toNat ≠ 34 ∧ t[0].toNat ≠ 10) ∧ v < 256 ∧ ∃ (k : Nat) (mb : Bool), (mb = true → v < 128) ∧ _ ∧ Reads rest (t.extract k t.size) := hrd.out
      obtain ⟨hb34, hb10⟩ := hbt hpos
      have p0 : (0 : Int) < (t.size : Int) := by omega
      have p1 : (((t[0].toNat : Nat) : Int) == 34) = false := by rw [beq_eq_false_iff_ne]; omega
      have p2 : (((t[0].toNat : Nat) : Int) == 10) = false := by rw [beq_eq_false_iff_ne]; omega
      clear hbt hrd
      have hown1 := fun (w2 : World) (hb2 : Below wr.heap.size wr w2) => ownsRow_below hown hb2 rfl
      have hbw1 := fun (w2 : World) (hb2 : Below wr.heap.size wr w2) => hbw.trans (hb2.mono hbw.size)
      clear hown hbw
      have hpl1 : pre.length + 1 ≤ 100 := by
        have h1 := congrArg List.length happ.out
        simp at h1
        omega
      have h256' : Hid (∀ x ∈ pre ++ [v], x < 256) := by
        intro x hx
        rcases List.mem_append.1 hx with h | h
        · exact h256.out x h
        · rw [List.mem_singleton.1 h]; exact hv
      have happ' : Hid ((pre ++ [v]) ++ rest = vs) := by
        have := happ.out
        show (pre ++ [v]) ++ rest = vs
        rw [List.append_assoc]; exact this
      clear happ h256
      obtain ⟨g', rfl⟩ : ∃ g', gk = g' + 1 := ⟨gk - 1, by omega⟩
      go_wp2_with fail
      refine (hcall _).mono ?_
      rintro e w2 ⟨rfl, hb2⟩
      have hown := hown1 _ hb2
      have hbw := hbw1 _ hb2
      clear hown1 hbw1 hb2 hcall
      obtain ⟨t2, ht2⟩ : ∃ t2, t.extract k t.size = t2 := ⟨_, rfl⟩
      rw [ht2] at hr2 ⊢
      obtain ⟨V, hV⟩ : ∃ V : Int, (v : Int) = V := ⟨_, rfl⟩
      have HV : Hid ((v : Int) = V) := hV
      have V0 : 0 ≤ V := by omega
      have V1 : V < 256 := by omega
      have V2 : mb = true → V < 128 := by intro h; have := hmb h; omega
      rw [hV]
      clear hV
      by_cases hv128 : V < 128
      · go_wp2_with (at_builtin; refine wpList_append_own _ rfl _ _ 48 rfl w.heap.size 5 i0 (.int .u8 0) 1 1 und48 i5 hz0 hz1 hz2 rfl (by decide) _ _ _ rfl (hown.alloc _) ⟨w2.heap.size, 0, none⟩ 1 1 [.int .u8 V] rfl rfl (one_cell _ _ _) (one_one _) (by unfold maxLen; omega) (by omega) (by have h9 := hbw.size; rw [alloc_sz]; omega) ?_)
        intro v' w3 hown' hgrow _
        have hb3 := step_below hbw hown hgrow
        have hown3 : w3.ownsRow w.heap.size 5 1 v' (pre ++ [v]).length ((pre ++ [v]).map fun x : Nat => Value.int .u8 (x : Int)) := by rw [List.map_append, List.length_append]; simpa [HV.out] using hown'
        clear hown' hgrow hown hbw
        go_wp2_with fail
        go_roundg g'
        case measure => omega
        case rel => exact ⟨rest, pre ++ [v], t2, rfl, hr2, by simp only [List.length_cons] at hlt; omega, happ', by rw [List.length_append]; exact hpl1, hown3, h256', hb3⟩
      · have hmbf : mb = false := by cases mb with | true => exact absurd (V2 rfl) hv128 | false => rfl
        subst hmbf
        go_wp2_with (at_builtin; refine wpList_append_own _ rfl _ _ 48 rfl w.heap.size 5 i0 (.int .u8 0) 1 1 und48 i5 hz0 hz1 hz2 rfl (by decide) _ _ _ rfl (hown.alloc _) ⟨w2.heap.size, 0, none⟩ 1 1 [.int .u8 V] rfl rfl (one_cell _ _ _) (one_one _) (by unfold maxLen; omega) (by omega) (by have h9 := hbw.size; rw [alloc_sz]; omega) ?_)
        intro v' w3 hown' hgrow _
        have hb3 := step_below hbw hown hgrow
        have hown3 : w3.ownsRow w.heap.size 5 1 v' (pre ++ [v]).length ((pre ++ [v]).map fun x : Nat => Value.int .u8 (x : Int)) := by rw [List.map_append, List.length_append]; simpa [HV.out] using hown'
        clear hown' hgrow hown hbw
        go_wp2_with fail
        go_roundg g'
        case measure => omega
        case rel => exact ⟨rest, pre ++ [v], t2, rfl, hr2, by simp only [List.length_cons] at hlt; omega, happ', by rw [List.length_append]; exact hpl1, hown3, h256', hb3⟩

end Uq
end Go.Proofs.YtdpnoaaeplgdjaaGreatDoor
