/-
  THE WALK OF big.NewInt, of constant.makeInt and what it asks.
-/
import Derived.Test.YtdpnoaaeplgdjaaGreatDoorIn
namespace Go.Proofs.YtdpnoaaeplgdjaaGreatDoor
open Go.RowKit
namespace Wa
open Rg

/-- A number with a sign that is an int64. -/
def small (s : Bool) (m : Nat) : Prop := m < 9223372036854775808 ∨ (s = true ∧ m = 9223372036854775808)
/-- A number with a sign. -/
def sv (s : Bool) (m : Nat) : Int := if s then -(m : Int) else (m : Int)
/-- A new Int. -/
def Made (w : World) (s : Bool) (m : Nat) (e : Ending) (w' : World) : Prop := ∃ g v, e = .returned (.pointer (some ⟨g, 0, none⟩)) ∧ Bi w' g s v ∧ Nt w' v m ∧ Below w.heap.size w w' ∧ w.heap.size ≤ g ∧ ∀ b, v.ownBlock = some b → w.heap.size ≤ b

theorem Nt.word (w : World) (m : Nat) (hm : 0 < m) (h : m < 18446744073709551616) : Nt (w.alloc (.cells #[.int .u64 (m : Int)] 170)) (.slice (some ⟨w.heap.size, 0, none⟩) 1 1) m := by
  have h1 : nw m = 1 := by
    have a := nw_pos m hm
    have b := (nw_le_iff m 1).2 (by rw [Nat.pow_one]; exact h)
    omega
  have := Sl.of (w := w.alloc (.cells #[.int .u64 (m : Int)] 170)) (n := 1) (heap_alloc_new w _) rfl (Nat.le_refl _) (by show 1 ≤ maxLen; decide)
  unfold Nt
  rw [h1]
  have e : wl m 1 = [.int .u64 (m : Int)] := by
    show [Value.int .u64 ((wo m 0 : Nat) : Int)] = _
    rw [wo_at0, Nat.mod_eq_of_lt h]
  rw [e]
  exact this

theorem made_two (w : World) (s : Bool) (m : Nat) (hm : 0 < m) (h : m < 18446744073709551616) :
    Made w s m (.returned (.pointer (some ⟨w.heap.size + 1, 0, none⟩))) ((w.alloc (.cells #[.int .u64 (m : Int)] 170)).alloc (.cells #[.bool s, .slice (some ⟨w.heap.size, 0, none⟩) 1 1] 161)) := by
  refine ⟨w.heap.size + 1, _, rfl, ?_, Sl.alloc (Nt.word w m hm h) _, ((Below.refl _ _).alloc (Nat.le_refl _) _).alloc (by simp) _, Nat.le_succ _, fun b hb => Nat.le_of_eq (Option.some.inj hb)⟩
  have := Blk.new (w.alloc (.cells #[.int .u64 (m : Int)] 170)) 161 #[.bool s, .slice (some ⟨w.heap.size, 0, none⟩) 1 1]
  simpa [Bi] using this
set_option maxRecDepth 100000 in
set_option maxHeartbeats 4000000 in
theorem new_zero (w : World) : Calls Tryz.prog 53 #[.int .i64 0] w (Made w false 0) := by
  go_enter Tryz.func53, Tryz.ntmps53
  go_wp2
  go_ret
  exact ⟨w.heap.size, .slice none 0 0, rfl, Blk.new w 161 _, Nt.nil _, (Below.refl _ _).alloc (Nat.le_refl _) _, Nat.le_refl _, fun b hb => by cases hb⟩
set_option maxRecDepth 100000 in
set_option maxHeartbeats 4000000 in
theorem new_pos (m : Nat) (hm : 0 < m) (h : m < 9223372036854775808) (w : World) : Calls Tryz.prog 53 #[.int .i64 (m : Int)] w (Made w false m) := by
  have q0 : ¬ ((m : Int) < 0) := by omega
  have q1 : ¬ ((m : Int) = 0) := by omega
  have e1 : IntKind.u64.wrap (m : Int) = (m : Int) := by simp only [IntKind.wrap_u64]; omega
  go_enter Tryz.func53, Tryz.ntmps53
  go_wp2
  go_ret
  exact made_two w false m hm (by omega)
set_option maxRecDepth 100000 in
set_option maxHeartbeats 4000000 in
theorem new_neg (m : Nat) (hm : 0 < m) (h : m ≤ 9223372036854775808) (w : World) : Calls Tryz.prog 53 #[.int .i64 (-(m : Int))] w (Made w true m) := by
  have q0 : (-(m : Int) < 0) := by omega
  have q1 : ¬ (-(m : Int) = 0) := by omega
  have e1 : IntKind.u64.wrap (-(m : Int)) = 18446744073709551616 - (m : Int) := by simp only [IntKind.wrap_u64]; omega
  have e2 : IntKind.u64.wrap (-(18446744073709551616 - (m : Int))) = (m : Int) := by simp only [IntKind.wrap_u64]; omega
  go_enter Tryz.func53, Tryz.ntmps53
  go_wp2
  go_ret
  exact made_two w true m hm (by omega)

/-- A constant value of a number: an int64Val, or an intVal over an Int. -/
def Cv (w : World) (x : Value) (s : Bool) (m : Nat) : Prop :=
  (small s m ∧ x = .iface 86 (.int .i64 (sv s m))) ∨ (¬ small s m ∧ ∃ g v, x = .iface 89 (.agg #[.pointer (some ⟨g, 0, none⟩)]) ∧ Bi w g s v ∧ Nt w v m)

set_option maxRecDepth 100000 in
set_option maxHeartbeats 8000000 in
/-- makeInt. -/
theorem makeInt_c {w : World} {g m : Nat} {s : Bool} {v : Value} (h : Bi w g s v) (hv : Nt w v m) (hs : s = true → 0 < m) : Calls Tryz.prog 50 #[.pointer (some ⟨g, 0, none⟩)] w fun e w' => ∃ x, e = .returned x ∧ Cv w' x s m ∧ Below w.heap.size w w' := by
  have c0 := h.cell 0
  have c1 := h.cell 1
  simp only [List.getElem?_toArray, List.getElem?_cons_zero, List.getElem?_cons_succ] at c0 c1
  have HB : Hid (Bi w g s v) := h
  have HV : Hid (Nt w v m) := hv
  rcases Nat.lt_or_ge m 18446744073709551616 with hm | hm
  · rcases Nat.eq_zero_or_pos m with h0 | h0
    · -- nought
      subst h0
      obtain ⟨a, c, rfl, _⟩ := Sl.nil_or hv
      have hsf : s = false := by cases s with | false => rfl | true => exact absurd (hs rfl) (by decide)
      subst hsf
      rw [nw_zero] at *
      clear h hv hs
      go_enter Tryz.func50, Tryz.ntmps50
      go_wp2
      go_ret
      exact ⟨_, rfl, .inl ⟨.inl (by decide), rfl⟩, Below.refl _ _⟩
    · have hn : nw m = 1 := by
        have a := nw_pos m h0
        have b := (nw_le_iff m 1).2 (by rw [Nat.pow_one]; exact hm)
        omega
      obtain ⟨gv, cv, cur, rfl, _⟩ := Sl.form_pos hv (by omega)
      have cm := Sl.cell hv 0 (by omega)
      rw [wl_at _ _ _ (by omega), wo_at0, Nat.mod_eq_of_lt hm] at cm
      rw [hn] at *
      clear h hv
      rcases Nat.lt_or_ge m 9223372036854775808 with h6 | h6
      · have e1 : IntKind.i64.wrap (m : Int) = (m : Int) := by rw [IntKind.wrap_i64]; omega
        have q1 : (0 : Int) ≤ (m : Int) := by omega
        cases s with
        | false =>
          go_enter Tryz.func50, Tryz.ntmps50
          go_wp2
          go_ret
          exact ⟨_, rfl, .inl ⟨.inl h6, rfl⟩, Below.refl _ _⟩
        | true =>
          go_enter Tryz.func50, Tryz.ntmps50
          go_wp2
          go_ret
          exact ⟨_, rfl, .inl ⟨.inl h6, rfl⟩, Below.refl _ _⟩
      · have e1 : IntKind.i64.wrap (m : Int) = (m : Int) - 18446744073709551616 := by rw [IntKind.wrap_i64]; omega
        have q1 : ¬ ((0 : Int) ≤ (m : Int) - 18446744073709551616) := by omega
        cases s with
        | false =>
          have hns : Hid (¬ small false m) := fun h => by
            rcases h with h | ⟨h, _⟩
            · omega
            · cases h
          obtain ⟨D, hD⟩ : ∃ D : Int, (m : Int) - 18446744073709551616 = D := ⟨_, rfl⟩
          rw [hD] at e1 q1
          clear hD h6 hm h0 hs
          go_enter Tryz.func50, Tryz.ntmps50
          go_wp2
          go_ret
          exact ⟨_, rfl, .inr ⟨hns.out, g, _, rfl, HB.out, HV.out⟩, Below.refl _ _⟩
        | true =>
          by_cases h7 : m = 9223372036854775808
          · subst h7
            clear e1 q1
            have e1 : IntKind.i64.wrap ((9223372036854775808 : Nat) : Int) = -9223372036854775808 := by decide
            have e3 : IntKind.i64.wrap (9223372036854775808 : Int) = -9223372036854775808 := by decide
            go_enter Tryz.func50, Tryz.ntmps50
            go_wp2
            go_ret
            exact ⟨_, rfl, .inl ⟨.inr ⟨rfl, rfl⟩, rfl⟩, Below.refl _ _⟩
          · have hns : Hid (¬ small true m) := fun h => by rcases h with h | ⟨_, h⟩ <;> omega
            have e4 : IntKind.i64.wrap (-((m : Int) - 18446744073709551616)) = 18446744073709551616 - (m : Int) := by rw [IntKind.wrap_i64]; omega
            have q2 : ¬ ((m : Int) - 18446744073709551616 = 18446744073709551616 - (m : Int)) := by omega
            obtain ⟨D, hD⟩ : ∃ D : Int, (m : Int) - 18446744073709551616 = D := ⟨_, rfl⟩
            obtain ⟨E, hE⟩ : ∃ E : Int, 18446744073709551616 - (m : Int) = E := ⟨_, rfl⟩
            rw [hD] at e1 q1 e4 q2
            rw [hE] at e4 q2
            clear hD hE h6 hm h0 hs h7
            go_enter Tryz.func50, Tryz.ntmps50
            go_wp2
            go_ret
            exact ⟨_, rfl, .inr ⟨hns.out, g, _, rfl, HB.out, HV.out⟩, Below.refl _ _⟩
  · have hn : ¬ nw m ≤ 1 := fun h9 => by
      have := (nw_le_iff m 1).1 h9
      rw [Nat.pow_one] at this
      omega
    have hns : Hid (¬ small s m) := fun h => by rcases h with h | ⟨_, h⟩ <;> omega
    obtain ⟨a, c, rfl, _⟩ := Sl.nil_or hv
    obtain ⟨n, hnn⟩ : ∃ n, nw m = n := ⟨_, rfl⟩
    rw [hnn] at hn HB HV c1
    have q1 : ¬ ((n : Int) ≤ 1) := by omega
    clear h hv hnn hn hm hs
    go_enter Tryz.func50, Tryz.ntmps50
    go_wp2
    go_ret
    exact ⟨_, rfl, .inr ⟨hns.out, g, _, rfl, HB.out, HV.out⟩, Below.refl _ _⟩
end Wa
end Go.Proofs.YtdpnoaaeplgdjaaGreatDoor
