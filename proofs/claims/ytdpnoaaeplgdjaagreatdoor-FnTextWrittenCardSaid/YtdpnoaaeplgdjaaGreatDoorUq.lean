/-
  THE WALK OF strconv.UnquoteChar at each of the pieces of which a quoted text is made.
-/
import Derived.Test.YtdpnoaaeplgdjaaGreatDoorProg
import Derived.WalkKit
import Derived.WalkSpells
import Derived.WalkLawsBesides
import Derived.KernelRfl
import Derived.Deep.QuietTactic
import Derived.BigQuiet
namespace Go.Proofs.YtdpnoaaeplgdjaaGreatDoor
open Go.RowKit
namespace Uq

/-- The letter of a figure of base 16. -/
def hexd (n : Nat) : Nat := if n < 10 then 48 + n else 87 + n

theorem unhex_any (b n : Nat) (hn : n < 16) (hb : b = hexd n) (w : World) : Calls Tryz.prog 176 #[.int .u8 b] w fun e w' => e = .returned (.tuple #[.int .i32 n, .bool true]) ∧ w = w' := by
  subst hb
  unfold hexd
  by_cases h : n < 10
  · rw [if_pos h]
    have e1 : (((48 + n : Nat) : Int)) = 48 + (n : Int) := by omega
    rw [e1]
    go_enter Tryz.func176, Tryz.ntmps176
    go_wp2
    go_ret2
    exact ⟨by congr 2; simp; omega, rfl⟩
  · rw [if_neg h]
    have e1 : (((87 + n : Nat) : Int)) = 87 + (n : Int) := by omega
    rw [e1]
    have hn' : 10 ≤ (n : Int) := by omega
    go_enter Tryz.func176, Tryz.ntmps176
    go_wp2
    go_ret2
    exact ⟨by congr 2; simp; omega, rfl⟩



theorem ext_get (s : ByteArray) (i j : Nat) (h : j < (s.extract i s.size).size) : (s.extract i s.size)[j] = s[i + j]'(by simp at h; omega) := by
  simp [ByteArray.getElem_extract]

theorem ext_ext (s : ByteArray) (i j : Nat) (hi : i ≤ s.size) : (s.extract i s.size).extract j (s.size - i) = s.extract (i + j) s.size := by
  apply ByteArray.ext
  simp only [ByteArray.data_extract]
  rw [Array.extract_extract]
  congr 1
  omega

theorem or16 (a b : Nat) (ha : a ≤ 255) (hb : b < 16) : bits .or .i32 ((a : Int) * 16) (b : Int) = ((16 * a + b : Nat) : Int) := by
  have e : ((a : Int) * 16) = ((a * 16 : Nat) : Int) := by simp
  rw [e]
  show IntKind.i32.wrap ((BitVec.ofInt 32 ((a * 16 : Nat) : Int) ||| BitVec.ofInt 32 (b : Int)).toNat : Int) = _
  rw [BitVec.toNat_or, BitVec.ofInt_natCast, BitVec.ofInt_natCast, BitVec.toNat_ofNat, BitVec.toNat_ofNat, Nat.mod_eq_of_lt (by omega), Nat.mod_eq_of_lt (by omega)]
  have h := Nat.two_pow_add_eq_or_of_lt (i := 4) (b := b) (by omega) a
  rw [show a * 16 = 2 ^ 4 * a from by omega, ← h, IntKind.wrap_i32]
  omega

theorem ret4 {P : Program} {f : Func} {t u v x : Tmp} {R : Ending → World → Prop} {a : Act} {w : World} (h : f.results = #[.tmp t, .tmp u, .tmp v, .tmp x]) (hd : a.defers = [])
    (hR : R (.returned (.tuple #[a.tmps.getD t undef, a.tmps.getD u undef, a.tmps.getD v undef, a.tmps.getD x undef])) w) : bodyPost P f R .ret a w :=
  bodyPost_ret (by simp [results, h]) hd hR

set_option maxRecDepth 100000 in
theorem valid_rune (v : Int) (h1 : 0 ≤ v) (h2 : v ≤ 255) (w : World) : Calls Tryz.prog 177 #[.int .i32 v] w fun e w' => e = .returned (.bool true) ∧ w = w' := by
  go_enter Tryz.func177, Tryz.ntmps177
  go_wp2
  go_ret
  exact ⟨rfl, rfl⟩

set_option maxRecDepth 100000 in
set_option maxHeartbeats 1600000 in
theorem uc_x (s : ByteArray) (w : World) (nib V : Nat → Nat) (hn : ∀ j, nib j < 16) (hV0 : V 0 = 0) (hV : ∀ j, V (j + 1) = 16 * V j + nib j) (hV2 : ∀ j, j ≤ 2 → V j ≤ 255) (hs : s.size ≤ 1000000) (h0 : 4 ≤ s.size) (e0 : s[0].toNat = 92) (e1 : s[1].toNat = 120)
    (e2 : ∀ j (h : j < (s.extract 2 s.size).size), j < 2 → (s.extract 2 s.size)[j].toNat = hexd (nib j)) :
    Calls Tryz.prog 104 #[.string s, .int .u8 34] w fun e w' => e = .returned (.tuple #[.int .i32 (V 2), .bool false, .string (s.extract 4 s.size), .nilIface]) ∧ Below w.heap.size w w' := by
  have E2 : Hid (∀ j (h : j < (s.extract 2 s.size).size), j < 2 → (s.extract 2 s.size)[j].toNat = hexd (nib j)) := e2
  have HV0 : Hid (V 0 = 0) := hV0
  have HV : Hid (∀ j, V (j + 1) = 16 * V j + nib j) := hV
  clear e2 hV0 hV
  have z1 : ((s.size : Int) == 0) = false := by rw [beq_eq_false_iff_ne]; omega
  have z2 : decide ((s.size : Int) ≤ 1) = false := by simp; omega
  have z3 : decide (((s.size - 2 : Nat) : Int) < 2) = false := by simp; omega
  go_enter Tryz.func104, Tryz.ntmps104
  go_wp2
  go_loop [7, 13, 14] (fun e v j => e = .nilIface ∧ ∃ k : Nat, k ≤ 2 ∧ j = .int .i64 k ∧ v = .int .i32 (V k)) (fun _ _ j => 2 - (intOf j).toNat)
  case atStart => exact ⟨rfl, 0, by omega, rfl, by rw [HV0.out]; rfl⟩
  case round =>
    obtain ⟨rfl, k, hk, rfl, rfl⟩ := hrel
    by_cases hlt : k < 2
    · have hvk := hV2 k hk
      go_wp2_with fail
      refine (unhex_any _ (nib k) (hn k) (E2.out k _ hlt) _).mono ?_
      rintro e w1 ⟨rfl, rfl⟩
      go_wp2_with fail
      go_round
      case rel => exact ⟨rfl, k + 1, by omega, by go_num, by rw [or16 _ _ hvk (hn k), HV.out k]⟩
      case measure => simp [intOf]; omega
    · have hk2 : k = 2 := by omega
      subst hk2
      go_wp2_with fail
      refine ret4 rfl rfl ⟨?_, Below.refl _ _⟩
      have e := ext_ext s 2 2 (by omega)
      simp only [e]
      rfl

set_option maxRecDepth 100000 in
set_option maxHeartbeats 1600000 in
theorem uc_u (s : ByteArray) (w : World) (nib V : Nat → Nat) (hn : ∀ j, nib j < 16) (hV0 : V 0 = 0) (hV : ∀ j, V (j + 1) = 16 * V j + nib j) (hV2 : ∀ j, j ≤ 4 → V j ≤ 255) (hs : s.size ≤ 1000000) (h0 : 6 ≤ s.size) (e0 : s[0].toNat = 92) (e1 : s[1].toNat = 117)
    (e2 : ∀ j (h : j < (s.extract 2 s.size).size), j < 4 → (s.extract 2 s.size)[j].toNat = hexd (nib j)) :
    Calls Tryz.prog 104 #[.string s, .int .u8 34] w fun e w' => e = .returned (.tuple #[.int .i32 (V 4), .bool true, .string (s.extract 6 s.size), .nilIface]) ∧ Below w.heap.size w w' := by
  have E2 : Hid (∀ j (h : j < (s.extract 2 s.size).size), j < 4 → (s.extract 2 s.size)[j].toNat = hexd (nib j)) := e2
  have HV0 : Hid (V 0 = 0) := hV0
  have HV : Hid (∀ j, V (j + 1) = 16 * V j + nib j) := hV
  clear e2 hV0 hV
  have z1 : ((s.size : Int) == 0) = false := by rw [beq_eq_false_iff_ne]; omega
  have z2 : decide ((s.size : Int) ≤ 1) = false := by simp; omega
  have z3 : decide (((s.size - 2 : Nat) : Int) < 4) = false := by simp; omega
  go_enter Tryz.func104, Tryz.ntmps104
  go_wp2
  go_loop [7, 13, 14] (fun e v j => e = .nilIface ∧ ∃ k : Nat, k ≤ 4 ∧ j = .int .i64 k ∧ v = .int .i32 (V k)) (fun _ _ j => 4 - (intOf j).toNat)
  case atStart => exact ⟨rfl, 0, by omega, rfl, by rw [HV0.out]; rfl⟩
  case round =>
    obtain ⟨rfl, k, hk, rfl, rfl⟩ := hrel
    by_cases hlt : k < 4
    · have hvk := hV2 k hk
      go_wp2_with fail
      refine (unhex_any _ (nib k) (hn k) (E2.out k _ hlt) _).mono ?_
      rintro e w1 ⟨rfl, rfl⟩
      go_wp2_with fail
      go_round
      case rel => exact ⟨rfl, k + 1, by omega, by go_num, by rw [or16 _ _ hvk (hn k), HV.out k]⟩
      case measure => simp [intOf]; omega
    · have hk2 : k = 4 := by omega
      subst hk2
      have hv8 := hV2 4 (by omega)
      go_wp2_with fail
      refine (valid_rune _ (by omega) (by omega) _).mono ?_
      rintro e w1 ⟨rfl, rfl⟩
      go_wp2_with fail
      refine ret4 rfl rfl ⟨?_, Below.refl _ _⟩
      have e := ext_ext s 2 4 (by omega)
      simp only [e]
      rfl

set_option maxRecDepth 100000 in
set_option maxHeartbeats 1600000 in
theorem uc_U (s : ByteArray) (w : World) (nib V : Nat → Nat) (hn : ∀ j, nib j < 16) (hV0 : V 0 = 0) (hV : ∀ j, V (j + 1) = 16 * V j + nib j) (hV2 : ∀ j, j ≤ 8 → V j ≤ 255) (hs : s.size ≤ 1000000) (h0 : 10 ≤ s.size) (e0 : s[0].toNat = 92) (e1 : s[1].toNat = 85)
    (e2 : ∀ j (h : j < (s.extract 2 s.size).size), j < 8 → (s.extract 2 s.size)[j].toNat = hexd (nib j)) :
    Calls Tryz.prog 104 #[.string s, .int .u8 34] w fun e w' => e = .returned (.tuple #[.int .i32 (V 8), .bool true, .string (s.extract 10 s.size), .nilIface]) ∧ Below w.heap.size w w' := by
  have E2 : Hid (∀ j (h : j < (s.extract 2 s.size).size), j < 8 → (s.extract 2 s.size)[j].toNat = hexd (nib j)) := e2
  have HV0 : Hid (V 0 = 0) := hV0
  have HV : Hid (∀ j, V (j + 1) = 16 * V j + nib j) := hV
  clear e2 hV0 hV
  have z1 : ((s.size : Int) == 0) = false := by rw [beq_eq_false_iff_ne]; omega
  have z2 : decide ((s.size : Int) ≤ 1) = false := by simp; omega
  have z3 : decide (((s.size - 2 : Nat) : Int) < 8) = false := by simp; omega
  go_enter Tryz.func104, Tryz.ntmps104
  go_wp2
  go_loop [7, 13, 14] (fun e v j => e = .nilIface ∧ ∃ k : Nat, k ≤ 8 ∧ j = .int .i64 k ∧ v = .int .i32 (V k)) (fun _ _ j => 8 - (intOf j).toNat)
  case atStart => exact ⟨rfl, 0, by omega, rfl, by rw [HV0.out]; rfl⟩
  case round =>
    obtain ⟨rfl, k, hk, rfl, rfl⟩ := hrel
    by_cases hlt : k < 8
    · have hvk := hV2 k hk
      go_wp2_with fail
      refine (unhex_any _ (nib k) (hn k) (E2.out k _ hlt) _).mono ?_
      rintro e w1 ⟨rfl, rfl⟩
      go_wp2_with fail
      go_round
      case rel => exact ⟨rfl, k + 1, by omega, by go_num, by rw [or16 _ _ hvk (hn k), HV.out k]⟩
      case measure => simp [intOf]; omega
    · have hk2 : k = 8 := by omega
      subst hk2
      have hv8 := hV2 8 (by omega)
      go_wp2_with fail
      refine (valid_rune _ (by omega) (by omega) _).mono ?_
      rintro e w1 ⟨rfl, rfl⟩
      go_wp2_with fail
      refine ret4 rfl rfl ⟨?_, Below.refl _ _⟩
      have e := ext_ext s 2 8 (by omega)
      simp only [e]
      rfl

theorem or8 (a b : Nat) (ha : a ≤ 255) (hb : b < 8) : bits .or .i32 ((a : Int) * 8) (b : Int) = ((8 * a + b : Nat) : Int) := by
  have e : ((a : Int) * 8) = ((a * 8 : Nat) : Int) := by simp
  rw [e]
  show IntKind.i32.wrap ((BitVec.ofInt 32 ((a * 8 : Nat) : Int) ||| BitVec.ofInt 32 (b : Int)).toNat : Int) = _
  rw [BitVec.toNat_or, BitVec.ofInt_natCast, BitVec.ofInt_natCast, BitVec.toNat_ofNat, BitVec.toNat_ofNat, Nat.mod_eq_of_lt (by omega), Nat.mod_eq_of_lt (by omega)]
  have h := Nat.two_pow_add_eq_or_of_lt (i := 3) (b := b) (by omega) a
  rw [show a * 8 = 2 ^ 3 * a from by omega, ← h, IntKind.wrap_i32]
  omega

set_option maxRecDepth 100000 in
set_option maxHeartbeats 1600000 in
theorem uc_oct_at (a : Nat) (ha : a = 0 ∨ a = 1 ∨ a = 2 ∨ a = 3) (s : ByteArray) (w : World) (nib V : Nat → Nat) (hn : ∀ j, nib j < 8) (hV0 : V 0 = a) (hV : ∀ j, V (j + 1) = 8 * V j + nib j) (hV2 : ∀ j, j ≤ 2 → V j ≤ 255) (hs : s.size ≤ 1000000) (h0 : 4 ≤ s.size) (e0 : s[0].toNat = 92) (e1 : s[1].toNat = 48 + a)
    (e2 : ∀ j (h : j < (s.extract 2 s.size).size), j < 2 → (s.extract 2 s.size)[j].toNat = 48 + nib j) :
    Calls Tryz.prog 104 #[.string s, .int .u8 34] w fun e w' => e = .returned (.tuple #[.int .i32 (V 2), .bool false, .string (s.extract 4 s.size), .nilIface]) ∧ Below w.heap.size w w' := by
  have E2 : Hid (∀ j (h : j < (s.extract 2 s.size).size), j < 2 → (s.extract 2 s.size)[j].toNat = 48 + nib j) := e2
  have HV0 : Hid (V 0 = a) := hV0
  have HV : Hid (∀ j, V (j + 1) = 8 * V j + nib j) := hV
  clear e2 hV0 hV
  have z1 : ((s.size : Int) == 0) = false := by rw [beq_eq_false_iff_ne]; omega
  have z2 : decide ((s.size : Int) ≤ 1) = false := by simp; omega
  have z3 : decide (((s.size - 2 : Nat) : Int) < 2) = false := by simp; omega
  rcases ha with rfl | rfl | rfl | rfl
  all_goals
    simp only [Nat.add_zero, Nat.reduceAdd] at e1
    go_enter Tryz.func104, Tryz.ntmps104
    go_wp2
    go_loop [7, 17, 18] (fun e v j => e = .nilIface ∧ ∃ k : Nat, k ≤ 2 ∧ j = .int .i64 k ∧ v = .int .i32 (V k)) (fun _ _ j => 2 - (intOf j).toNat)
    case atStart => exact ⟨rfl, 0, by omega, rfl, by rw [HV0.out]; rfl⟩
    case round =>
      obtain ⟨rfl, k, hk, rfl, rfl⟩ := hrel
      by_cases hlt : k < 2
      · have hvk := hV2 k hk
        have hnk := hn k
        have hlt2 : k < (s.extract 2 s.size).size := by simp; omega
        have ek : (((s.extract 2 s.size)[k]'hlt2).toNat : Int) = 48 + ((nib k : Nat) : Int) := by have := E2.out k hlt2 hlt; omega
        have er : (48 + ((nib k : Nat) : Int) - 48) = ((nib k : Nat) : Int) := by omega
        go_wp2_with fail
        go_round
        case rel => exact ⟨rfl, k + 1, by omega, by go_num, by rw [or8 _ _ hvk hnk, HV.out k]⟩
        case measure => simp [intOf]; omega
      · have hk2 : k = 2 := by omega
        subst hk2
        have hv8 := hV2 2 (by omega)
        go_wp2_with fail
        refine ret4 rfl rfl ⟨?_, Below.refl _ _⟩
        have e := ext_ext s 2 2 (by omega)
        simp only [e]
        rfl

set_option maxRecDepth 100000 in
set_option maxHeartbeats 1600000 in
theorem uc_raw (s : ByteArray) (w : World) (hs : s.size ≤ 1000000) (h0 : 0 < s.size) (h1 : s[0].toNat < 128) (h2 : s[0].toNat ≠ 34) (h3 : s[0].toNat ≠ 92) :
    Calls Tryz.prog 104 #[.string s, .int .u8 34] w fun e w' => e = .returned (.tuple #[.int .i32 s[0].toNat, .bool false, .string (s.extract 1 s.size), .nilIface]) ∧ Below w.heap.size w w' := by
  go_enter Tryz.func104, Tryz.ntmps104
  go_wp2
  go_quiet (fail)
  go_wp2_with fail
  refine ret4 rfl rfl ⟨rfl, ?_⟩
  exact ⟨rfl, rfl, rfl, Nat.le_refl _, fun _ _ => rfl⟩

end Uq
end Go.Proofs.YtdpnoaaeplgdjaaGreatDoor
