/-
  THE WALK OF unicode/utf8.ValidString at a text of ASCII of at most 100 bytes.
-/
import Derived.Test.YtdpnoaaeplgdjaaGreatDoorUv
import Derived.Deep.LoopGhost
import Derived.Below
namespace Go.Proofs.YtdpnoaaeplgdjaaGreatDoor
open Go.RowKit
namespace Uq

theorem below_drewN {B : Nat} {a w : World} (h : Below B a w) : ∀ q, Below B a (w.drewN q)
  | 0 => h
  | q + 1 => (below_drewN h q).drew

/-- Each byte is below 128. -/
def Asc (s : ByteArray) : Prop := ∀ i (h : i < s.size), s[i].toNat < 128

theorem Asc.ext {s : ByteArray} (h : Asc s) (k : Nat) : Asc (s.extract k s.size) := by
  intro i hi
  have hi2 : k + i < s.size := by rw [ByteArray.size_extract] at hi; omega
  rw [ext_get s k i hi]
  exact h _ _

theorem ext_sz (s : ByteArray) (k : Nat) : (s.extract k s.size).size = s.size - k := by rw [ByteArray.size_extract]; omega

set_option maxRecDepth 100000 in
set_option maxHeartbeats 1600000 in
theorem word_val (s : ByteArray) (hs : 8 < s.size) (hm : s.size ≤ 1000000) : ∃ x : Int, ∀ w, Calls Tryz.prog 298 #[.string s] w fun e w' => e = .returned (.int .u64 x) ∧ ∃ n, w' = w.drewN n := by
  have q0 : 0 < s.size := by omega
  have q1 : (1 : Int) < (s.size : Int) := by omega
  have q2 : (2 : Int) < (s.size : Int) := by omega
  have q3 : (3 : Int) < (s.size : Int) := by omega
  have q4 : (4 : Int) < (s.size : Int) := by omega
  have q5 : (5 : Int) < (s.size : Int) := by omega
  have q6 : (6 : Int) < (s.size : Int) := by omega
  have q7 : (7 : Int) < (s.size : Int) := by omega
  apply Exists.intro
  intro w
  go_enter Tryz.func298, Tryz.ntmps298
  go_wp2
  go_quiet (fail)
  go_wp2
  go_ret
  exact ⟨rfl, _, rfl⟩

set_option maxRecDepth 100000 in
set_option maxHeartbeats 16000000 in
theorem valid_asc (s : ByteArray) (hs : s.size ≤ 100) (ha : Asc s) (w : World) : Calls Tryz.prog 240 #[.string s] w fun e w' => e = .returned (.bool true) ∧ Below w.heap.size w w' := by
  have HA : Hid (Asc s) := ha
  clear ha
  go_enter Tryz.func240, Tryz.ntmps240
  go_wp2
  go_loopg [0] (s.size + 1) (fun gk s0 wx => Below w.heap.size w wx ∧ ∃ t : ByteArray, s0 = .string t ∧ Hid (Asc t) ∧ t.size < gk ∧ t.size ≤ 100)
  case atStart => exact ⟨Below.refl _ _, s, rfl, HA, by omega, hs⟩
  case round =>
    obtain ⟨hbw, t, rfl, hv, hg, hts⟩ := hrel
    by_cases h0 : 0 < t.size
    · obtain ⟨g', rfl⟩ : ∃ g', gk = g' + 1 := ⟨gk - 1, by omega⟩
      have h0z : (0 : Int) < (t.size : Int) := by omega
      obtain ⟨x0, hx0⟩ : ∃ x0 : Nat, t[0].toNat = x0 := ⟨_, rfl⟩
      have hasc : x0 < 128 := by rw [← hx0]; exact hv.out 0 h0
      have hascz : (x0 : Int) < 128 := by omega
      obtain ⟨t1, ht1⟩ : ∃ t1, t.extract 1 t.size = t1 := ⟨_, rfl⟩
      have z1 : t1.size + 1 = t.size := by rw [← ht1, ext_sz]; omega
      have v1 : Hid (Asc t1) := by rw [← ht1]; exact hv.out.ext 1
      clear hv
      by_cases c8 : 8 < t1.size
      · have c8z : (8 : Int) < (t1.size : Int) := by omega
        obtain ⟨A1, cW1⟩ := word_val t1 c8 (by omega)
        obtain ⟨Z1, hZ1⟩ : ∃ Z1, bits .and .u64 A1 9259542123273814144 = Z1 := ⟨_, rfl⟩
        by_cases hz1 : (Z1 == 0) = true
        · go_wp2_with (go_at_call 298; refine (cW1 _).mono ?_; rintro e W1 ⟨rfl, q1, rfl⟩)
          obtain ⟨t2, ht2⟩ : ∃ t2, t1.extract 8 t1.size = t2 := ⟨_, rfl⟩
          have z2 : t2.size + 8 = t1.size := by rw [← ht2, ext_sz]; omega
          have v2 : Hid (Asc t2) := by rw [← ht2]; exact v1.out.ext 8
          have hb1 : Below w.heap.size w (wr.drewN q1) := below_drewN hbw q1
          generalize wr.drewN q1 = wq at hb1 ⊢
          clear cW1 hbw
          by_cases c16 : 16 < t2.size
          · have c16z : (16 : Int) < (t2.size : Int) := by omega
            have s8z : (8 : Int) ≤ (t2.size : Int) := by omega
            obtain ⟨t2b, ht2b⟩ : ∃ t2b, t2.extract 8 t2.size = t2b := ⟨_, rfl⟩
            have z2b : t2b.size + 8 = t2.size := by rw [← ht2b, ext_sz]; omega
            obtain ⟨A2, cW2⟩ := word_val t2 (by omega) (by omega)
            obtain ⟨A3, cW3⟩ := word_val t2b (by omega) (by omega)
            obtain ⟨O2, hO2⟩ : ∃ O2, bits .or .u64 A2 A3 = O2 := ⟨_, rfl⟩
            obtain ⟨Z2, hZ2⟩ : ∃ Z2, bits .and .u64 O2 9259542123273814144 = Z2 := ⟨_, rfl⟩
            by_cases hz2 : (Z2 == 0) = true
            · obtain ⟨t3, ht3⟩ : ∃ t3, t2.extract 16 t2.size = t3 := ⟨_, rfl⟩
              have z3 : t3.size + 16 = t2.size := by rw [← ht3, ext_sz]; omega
              have v3 : Hid (Asc t3) := by rw [← ht3]; exact v2.out.ext 16
              go_quiet (first | (go_at_call 298; with_reducible refine Calls.quiet_of (cW2 _)) | (go_at_call 298; with_reducible refine Calls.quiet_of (cW3 _)))
              have hb2 : Below w.heap.size w (wq.drewN nq) := below_drewN hb1 nq
              generalize wq.drewN nq = wq2 at hb2 ⊢
              clear cW2 cW3 hb1
              go_wp2
              go_loopg [0] (t3.size + 1) (fun g2 s0 wx => Below w.heap.size w wx ∧ ∃ u : ByteArray, s0 = .string u ∧ Hid (Asc u) ∧ u.size < g2 ∧ u.size ≤ t3.size)
              case atStart => exact ⟨hb2, t3, rfl, v3, by omega, Nat.le_refl _⟩
              case round =>
                obtain ⟨hbu, u, rfl, vu, hgu, hut⟩ := hrel
                by_cases c32 : 32 < u.size
                · obtain ⟨g3, rfl⟩ : ∃ g3, gk = g3 + 1 := ⟨gk - 1, by omega⟩
                  have c32z : (32 : Int) < (u.size : Int) := by omega
                  have s8u : (8 : Int) ≤ (u.size : Int) := by omega
                  have s16u : (16 : Int) ≤ (u.size : Int) := by omega
                  have s24u : (24 : Int) ≤ (u.size : Int) := by omega
                  obtain ⟨ub, hub⟩ : ∃ ub, u.extract 8 u.size = ub := ⟨_, rfl⟩
                  have zub : ub.size + 8 = u.size := by rw [← hub, ext_sz]; omega
                  obtain ⟨uc, huc⟩ : ∃ uc, u.extract 16 u.size = uc := ⟨_, rfl⟩
                  have zuc : uc.size + 16 = u.size := by rw [← huc, ext_sz]; omega
                  obtain ⟨ud, hud⟩ : ∃ ud, u.extract 24 u.size = ud := ⟨_, rfl⟩
                  have zud : ud.size + 24 = u.size := by rw [← hud, ext_sz]; omega
                  obtain ⟨B0, cB0⟩ := word_val u (by omega) (by omega)
                  obtain ⟨B1, cB1⟩ := word_val ub (by omega) (by omega)
                  obtain ⟨B2, cB2⟩ := word_val uc (by omega) (by omega)
                  obtain ⟨B3, cB3⟩ : ∃ x : Int, ∀ w, Calls Tryz.prog 298 #[.string ud] w fun e w' => e = .returned (.int .u64 x) ∧ ∃ n, w' = w.drewN n := word_val ud (by omega) (by omega)
                  obtain ⟨P1, hP1⟩ : ∃ P1, bits .or .u64 B0 B1 = P1 := ⟨_, rfl⟩
                  obtain ⟨P2, hP2⟩ : ∃ P2, bits .or .u64 B2 B3 = P2 := ⟨_, rfl⟩
                  obtain ⟨P3, hP3⟩ : ∃ P3, bits .or .u64 P1 P2 = P3 := ⟨_, rfl⟩
                  obtain ⟨Z3, hZ3⟩ : ∃ Z3, bits .and .u64 P3 9259542123273814144 = Z3 := ⟨_, rfl⟩
                  by_cases hz3 : (Z3 == 0) = true
                  · obtain ⟨u2, hu2⟩ : ∃ u2, u.extract 32 u.size = u2 := ⟨_, rfl⟩
                    have zu2 : u2.size + 32 = u.size := by rw [← hu2, ext_sz]; omega
                    have vu2 : Hid (Asc u2) := by rw [← hu2]; exact vu.out.ext 32
                    go_wp2_with fail
                    go_quiet (first | (go_at_call 298; with_reducible refine Calls.quiet_of (cB0 _)) | (go_at_call 298; with_reducible refine Calls.quiet_of (cB1 _)) | (go_at_call 298; with_reducible refine Calls.quiet_of (cB2 _)) | (go_at_call 298; with_reducible refine Calls.quiet_of (cB3 _)))
                    go_wp2
                    go_roundg g3
                    case measure => omega
                    case rel => exact ⟨below_drewN hbu nq, u2, rfl, vu2, by omega, by omega⟩
                  · have hz3b : (Z3 == 0) = false := by simpa using hz3
                    clear hz3
                    go_wp2_with fail
                    go_quiet (first | (go_at_call 298; with_reducible refine Calls.quiet_of (cB0 _)) | (go_at_call 298; with_reducible refine Calls.quiet_of (cB1 _)) | (go_at_call 298; with_reducible refine Calls.quiet_of (cB2 _)) | (go_at_call 298; with_reducible refine Calls.quiet_of (cB3 _)))
                    go_wp2
                    go_roundg g'
                    case measure => omega
                    case rel => exact ⟨below_drewN hbu nq, u, rfl, vu, by omega, by omega⟩
                · have c32z : ¬ ((32 : Int) < (u.size : Int)) := by omega
                  have c32b : decide ((32 : Int) < (u.size : Int)) = false := decide_eq_false c32z
                  go_wp2_with fail
                  go_quiet (fail)
                  go_wp2
                  go_roundg g'
                  case measure => omega
                  case rel => exact ⟨below_drewN hbu nq, u, rfl, vu, by omega, by omega⟩
            · have hz2b : (Z2 == 0) = false := by simpa using hz2
              clear hz2
              go_quiet (first | (go_at_call 298; with_reducible refine Calls.quiet_of (cW2 _)) | (go_at_call 298; with_reducible refine Calls.quiet_of (cW3 _)))
              go_wp2
              go_roundg g'
              case measure => omega
              case rel => exact ⟨below_drewN hb1 nq, t2, by first | rfl | exact congrArg Value.string ht2, v2, by omega, by omega⟩
          · have c16z : ¬ ((16 : Int) < (t2.size : Int)) := by omega
            have c16b : decide ((16 : Int) < (t2.size : Int)) = false := decide_eq_false c16z
            go_quiet (fail)
            go_wp2
            go_roundg g'
            case measure => omega
            case rel => exact ⟨below_drewN hb1 nq, t2, by first | rfl | exact congrArg Value.string ht2, v2, by omega, by omega⟩
        · have hz1b : (Z1 == 0) = false := by simpa using hz1
          clear hz1
          go_wp2_with (go_at_call 298; refine (cW1 _).mono ?_; rintro e W1 ⟨rfl, q1, rfl⟩)
          go_roundg g'
          case measure => omega
          case rel => exact ⟨below_drewN hbw q1, t1, rfl, v1, by omega, by omega⟩
      · have c8z : ¬ ((8 : Int) < (t1.size : Int)) := by omega
        have c8b : decide ((8 : Int) < (t1.size : Int)) = false := decide_eq_false c8z
        go_wp2
        go_roundg g'
        case measure => omega
        case rel => exact ⟨hbw, t1, rfl, v1, by omega, by omega⟩
    · have h0z : ¬ ((0 : Int) < (t.size : Int)) := by omega
      go_wp2
      go_ret
      exact ⟨rfl, hbw⟩

end Uq
end Go.Proofs.YtdpnoaaeplgdjaaGreatDoor
