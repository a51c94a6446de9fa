/-
  DIGITS OF NATURAL NUMBERS TO THE BASE 65536, in plain Lean.
-/
import Derived.Below
import Derived.Test.YtdpnoaaeplgdjaaGreatDoorPAdd
import Derived.Test.YtdpnoaaeplgdjaaGreatDoorPSub
import Derived.Test.YtdpnoaaeplgdjaaGreatDoorPMul
import Derived.Test.YtdpnoaaeplgdjaaGreatDoorPOf64
import Derived.Test.YtdpnoaaeplgdjaaGreatDoorPsame
import Derived.Test.YtdpnoaaeplgdjaaGreatDoorPLen
import Derived.Test.YtdpnoaaeplgdjaaGreatDoorPquoted
import Derived.Laws.BitsAllLaws
import Derived.Test.YtdpnoaaeplgdjaaGreatDoorPHasWords
namespace Go.Proofs.YtdpnoaaeplgdjaaGreatDoor
namespace Dg

/-- The first i digits of n. -/
def ld (n i : Nat) : List Int := (List.range i).map fun j => ((n / 65536 ^ j % 65536 : Nat) : Int)
/-- How many digits n has. -/
def dlen (n : Nat) : Nat := if n = 0 then 0 else Nat.log2 n / 16 + 1
/-- The digits of n. -/
def dg (n : Nat) : List Int := ld n (dlen n)

theorem ld_len (n i : Nat) : (ld n i).length = i := by simp [ld]
theorem ld_zero (n : Nat) : ld n 0 = [] := rfl
theorem ld_succ (n i : Nat) : ld n (i + 1) = ld n i ++ [((n / 65536 ^ i % 65536 : Nat) : Int)] := by
  unfold ld
  rw [List.range_succ, List.map_append]
  rfl
theorem ld_getD (n i j : Nat) (h : j < i) : (ld n i).getD j 0 = ((n / 65536 ^ j % 65536 : Nat) : Int) := by
  simp [ld, List.getD, h]
theorem ld_get (n i j : Nat) (h : j < (ld n i).length) : (ld n i)[j] = ((n / 65536 ^ j % 65536 : Nat) : Int) := by
  simp [ld]
theorem ld_take (n i j : Nat) (h : j ≤ i) : (ld n i).take j = ld n j := by
  unfold ld
  rw [← List.map_take, List.take_range, Nat.min_eq_left h]

theorem pw (k : Nat) : 65536 ^ k = 2 ^ (16 * k) := by rw [Nat.pow_mul]

theorem dlen_lt (n : Nat) : n < 65536 ^ dlen n := by
  unfold dlen
  split
  · rename_i h; subst h; decide
  · rw [pw]
    refine Nat.lt_of_lt_of_le Nat.lt_log2_self (Nat.pow_le_pow_right (by omega) ?_)
    omega
theorem dlen_le (n : Nat) (h : 0 < n) : 65536 ^ (dlen n - 1) ≤ n := by
  unfold dlen
  rw [if_neg (by omega), pw]
  refine Nat.le_trans (Nat.pow_le_pow_right (by omega) ?_) (Nat.log2_self_le (by omega))
  omega
theorem pow_mono {i j : Nat} (h : i ≤ j) : 65536 ^ i ≤ 65536 ^ j := Nat.pow_le_pow_right (by omega) h
theorem pow_lt_of {i j : Nat} (h : 65536 ^ i < 65536 ^ j) : i < j := by
  rcases Nat.lt_or_ge i j with h1 | h1
  · exact h1
  · have := pow_mono h1; omega
theorem dlen_le_iff (n i : Nat) : dlen n ≤ i ↔ n < 65536 ^ i := by
  constructor
  · intro h; exact Nat.lt_of_lt_of_le (dlen_lt n) (pow_mono h)
  · intro h
    rcases Nat.eq_zero_or_pos n with h0 | h0
    · subst h0; simp [dlen]
    · have h1 := dlen_le n h0
      have := pow_lt_of (Nat.lt_of_le_of_lt h1 h)
      omega
theorem dlen_zero : dlen 0 = 0 := rfl
theorem dlen_pos (n : Nat) (h : 0 < n) : 0 < dlen n := by
  unfold dlen; rw [if_neg (by omega)]; omega
theorem dlen_eq (n i : Nat) (h : n < 65536 ^ (i + 1)) (h2 : 65536 ^ i ≤ n) : dlen n = i + 1 := by
  have h1 := (dlen_le_iff n (i + 1)).2 h
  have h3 : ¬ dlen n ≤ i := fun h4 => by have := (dlen_le_iff n i).1 h4; omega
  omega
theorem dlen_mono {a b : Nat} (h : a ≤ b) : dlen a ≤ dlen b := (dlen_le_iff _ _).2 (Nat.lt_of_le_of_lt h (dlen_lt b))

theorem dg_len (n : Nat) : (dg n).length = dlen n := ld_len _ _
theorem dg_zero : dg 0 = [] := rfl
theorem dg_ne (n : Nat) (h : 0 < n) : dg n ≠ [] := fun e => by
  have h1 := dg_len n
  rw [e] at h1
  have := dlen_pos n h
  simp at h1
  omega
theorem high_zero (n j : Nat) (h : dlen n ≤ j) : n / 65536 ^ j % 65536 = 0 := by
  rw [Nat.div_eq_of_lt ((dlen_le_iff n j).1 h)]
theorem dg_getD (n j : Nat) : (dg n).getD j 0 = ((n / 65536 ^ j % 65536 : Nat) : Int) := by
  rcases Nat.lt_or_ge j (dlen n) with h | h
  · exact ld_getD _ _ _ h
  · rw [high_zero n j h]
    rw [List.getD, List.getElem?_eq_none (by rw [dg_len]; exact h)]
    rfl
theorem digit_lt (n j : Nat) : n / 65536 ^ j % 65536 < 65536 := Nat.mod_lt _ (by omega)

/-- Enough digits, without those that are 0 at the end. -/
theorem dg_of_ld (n i : Nat) (h : n < 65536 ^ (i + 1)) (h2 : 65536 ^ i ≤ n) : ld n (i + 1) = dg n := by
  unfold dg
  rw [dlen_eq n i h h2]

/-- A number by its digits. -/
theorem mod_succ (n i : Nat) : n % 65536 ^ (i + 1) = n % 65536 ^ i + 65536 ^ i * (n / 65536 ^ i % 65536) := by
  rw [Nat.pow_succ, Nat.mod_mul]
theorem ld_inj (a b i : Nat) (h : ld a i = ld b i) : a % 65536 ^ i = b % 65536 ^ i := by
  induction i with
  | zero => simp [Nat.mod_one]
  | succ i ih =>
    rw [ld_succ, ld_succ] at h
    have h1 := List.append_inj' h rfl
    have h2 := ih h1.1
    have h3 : ((a / 65536 ^ i % 65536 : Nat) : Int) = ((b / 65536 ^ i % 65536 : Nat) : Int) := by simpa using h1.2
    have h4 : a / 65536 ^ i % 65536 = b / 65536 ^ i % 65536 := by omega
    rw [mod_succ, mod_succ, h2, h4]
theorem dg_inj {a b : Nat} (h : dg a = dg b) : a = b := by
  have hl := congrArg List.length h
  rw [dg_len, dg_len] at hl
  unfold dg at h
  rw [hl] at h
  have := ld_inj _ _ _ h
  rw [Nat.mod_eq_of_lt (dlen_lt b), ← hl, Nat.mod_eq_of_lt (dlen_lt a)] at this
  exact this

/-- A sum, digit by digit. -/
theorem add_step (a b i : Nat) :
    ((a % 65536 ^ i + b % 65536 ^ i) / 65536 ^ i + a / 65536 ^ i % 65536 + b / 65536 ^ i % 65536) % 65536 = (a + b) / 65536 ^ i % 65536 ∧
    ((a % 65536 ^ i + b % 65536 ^ i) / 65536 ^ i + a / 65536 ^ i % 65536 + b / 65536 ^ i % 65536) / 65536 = (a % 65536 ^ (i + 1) + b % 65536 ^ (i + 1)) / 65536 ^ (i + 1) := by
  have hp : 0 < 65536 ^ i := Nat.pow_pos (by omega)
  obtain ⟨P, hP⟩ : ∃ P, 65536 ^ i = P := ⟨_, rfl⟩
  have hP1 : 65536 ^ (i + 1) = P * 65536 := by rw [Nat.pow_succ, hP]
  rw [mod_succ, mod_succ, hP1, hP]
  rw [hP] at hp
  have ha := Nat.div_add_mod a P
  have hb := Nat.div_add_mod b P
  obtain ⟨x, hx⟩ : ∃ x, a % P = x := ⟨_, rfl⟩
  obtain ⟨y, hy⟩ : ∃ y, b % P = y := ⟨_, rfl⟩
  obtain ⟨X, hX⟩ : ∃ X, a / P = X := ⟨_, rfl⟩
  obtain ⟨Y, hY⟩ : ∃ Y, b / P = Y := ⟨_, rfl⟩
  rw [hx, hX] at ha
  rw [hy, hY] at hb
  rw [hx, hy, hX, hY]
  have e1 : (a + b) / P = (x + y) / P + (X + Y) := by
    rw [show a + b = (x + y) + P * (X + Y) from by rw [← ha, ← hb, Nat.mul_add]; omega, Nat.add_mul_div_left _ _ hp]
  constructor
  · rw [e1]; omega
  · rw [show x + P * (X % 65536) + (y + P * (Y % 65536)) = (x + y) + P * (X % 65536 + Y % 65536) from by rw [Nat.mul_add]; omega, ← Nat.div_div_eq_div_mul, Nat.add_mul_div_left _ _ hp]
    congr 1
    omega

/-- A difference, digit by digit. -/
theorem sub_step (a b i : Nat) (h : b ≤ a) :
    let br := if a % 65536 ^ i < b % 65536 ^ i then 1 else 0
    let x : Int := (a / 65536 ^ i % 65536 : Nat) - br - (b / 65536 ^ i % 65536 : Nat)
    (if x < 0 then x + 65536 else x) = (((a - b) / 65536 ^ i % 65536 : Nat) : Int) ∧ (x < 0 ↔ a % 65536 ^ (i + 1) < b % 65536 ^ (i + 1)) := by
  have hp : 0 < 65536 ^ i := Nat.pow_pos (by omega)
  obtain ⟨P, hP⟩ : ∃ P, 65536 ^ i = P := ⟨_, rfl⟩
  have hP1 : 65536 ^ (i + 1) = P * 65536 := by rw [Nat.pow_succ, hP]
  rw [mod_succ, mod_succ, hP]
  rw [hP] at hp
  have ha := Nat.div_add_mod a P
  have hb := Nat.div_add_mod b P
  have hxl := Nat.mod_lt a hp
  have hyl := Nat.mod_lt b hp
  obtain ⟨x, hx⟩ : ∃ x, a % P = x := ⟨_, rfl⟩
  obtain ⟨y, hy⟩ : ∃ y, b % P = y := ⟨_, rfl⟩
  obtain ⟨X, hX⟩ : ∃ X, a / P = X := ⟨_, rfl⟩
  obtain ⟨Y, hY⟩ : ∃ Y, b / P = Y := ⟨_, rfl⟩
  rw [hx, hX] at ha
  rw [hy, hY] at hb
  rw [hx] at hxl
  rw [hy] at hyl
  rw [hx, hy, hX, hY]
  simp only
  by_cases hc : x < y
  · rw [if_pos hc]
    have hXY : Y + 1 ≤ X := by
      rcases Nat.lt_or_ge Y X with h1 | h1
      · exact h1
      · have := Nat.mul_le_mul_left P h1; omega
    have e1 : (a - b) / P = X - Y - 1 := by
      have : a - b = (P + x - y) + P * (X - Y - 1) := by
        obtain ⟨D, hD⟩ : ∃ D, X = Y + 1 + D := ⟨X - Y - 1, by omega⟩
        subst hD
        rw [show Y + 1 + D - Y - 1 = D from by omega]
        rw [← ha, ← hb, Nat.mul_add, Nat.mul_add, Nat.mul_one]
        omega
      rw [this, Nat.add_mul_div_left _ _ hp, Nat.div_eq_of_lt (by omega)]
      omega
    rw [e1]
    constructor
    · split <;> omega
    · constructor
      · intro h1
        have : X % 65536 ≤ Y % 65536 := by omega
        have := Nat.mul_le_mul_left P this
        omega
      · intro h1
        rcases Nat.lt_or_ge (Y % 65536) (X % 65536) with h2 | h2
        · have := Nat.mul_le_mul_left P h2
          rw [Nat.mul_succ] at this
          omega
        · omega
  · rw [if_neg hc]
    have hXY : Y ≤ X := by
      rcases Nat.lt_or_ge X Y with h1 | h1
      · have := Nat.mul_le_mul_left P h1
        rw [Nat.mul_succ] at this
        omega
      · exact h1
    have e1 : (a - b) / P = X - Y := by
      have : a - b = (x - y) + P * (X - Y) := by
        obtain ⟨D, hD⟩ : ∃ D, X = Y + D := ⟨X - Y, by omega⟩
        subst hD
        rw [show Y + D - Y = D from by omega, ← ha, ← hb, Nat.mul_add]
        omega
      rw [this, Nat.add_mul_div_left _ _ hp, Nat.div_eq_of_lt (by omega)]
      omega
    rw [e1]
    constructor
    · split <;> omega
    · constructor
      · intro h1
        have h2 : X % 65536 + 1 ≤ Y % 65536 := by omega
        have := Nat.mul_le_mul_left P h2
        rw [Nat.mul_add, Nat.mul_one] at this
        omega
      · intro h1
        rcases Nat.lt_or_ge (X % 65536) (Y % 65536) with h2 | h2
        · omega
        · have := Nat.mul_le_mul_left P h2
          omega

end Dg
end Go.Proofs.YtdpnoaaeplgdjaaGreatDoor
/-
  DIGITS: one round of Shl; the digits of a power of 2.
-/
namespace Go.Proofs.YtdpnoaaeplgdjaaGreatDoor
open Go.RowKit
namespace Dg

/-- Lists of digits: equal where each digit is. -/
theorem ld_ext (y n : Nat) (l : List Int) (hl : l.length = n) (h : ∀ j, j < n → l[j]? = some ((y / 65536 ^ j % 65536 : Nat) : Int)) : l = ld y n := by
  apply List.ext_getElem?
  intro j
  rcases Nat.lt_or_ge j n with h1 | h1
  · rw [h j h1]
    simp [ld, h1]
  · rw [List.getElem?_eq_none (by omega), List.getElem?_eq_none (by rw [ld_len]; exact h1)]
theorem ld_at (y n j : Nat) (h : j < n) : (ld y n)[j]? = some ((y / 65536 ^ j % 65536 : Nat) : Int) := by simp [ld, h]

theorem hi_add (y z q : Nat) (hq : 0 < q) : (y + z * q) / q = y / q + z := by rw [Nat.mul_comm, Nat.add_mul_div_left _ _ hq]

/-- One round of Shl. -/
theorem shl_round (y x s t k n : Nat) (hst : s * t = 65536) (hx : x < 65536) (hy : y < 65536 ^ k * s) (hk : k + 1 < n) :
    ((ld y n).set k (((y / 65536 ^ k % 65536 : Nat) : Int) + ((x * s % 65536 : Nat) : Int))).set (k + 1) ((x * s / 65536 : Nat) : Int) = ld (y + x * s * 65536 ^ k) n := by
  have hs0 : 0 < s := Nat.pos_of_ne_zero fun h => by subst h; omega
  have hp : 0 < 65536 ^ k := Nat.pow_pos (by omega)
  have hc : y / 65536 ^ k < s := Nat.div_lt_of_lt_mul hy
  obtain ⟨c, hcc⟩ : ∃ c, y / 65536 ^ k = c := ⟨_, rfl⟩
  have hs1 : s ≤ 65536 := Nat.le_of_dvd (by omega) ⟨t, hst.symm⟩
  have e1 : (c + x * s) / 65536 = x * s / 65536 := by
    have h0 : c / s = 0 := Nat.div_eq_of_lt (by rw [← hcc]; exact hc)
    rw [← hst, ← Nat.div_div_eq_div_mul, ← Nat.div_div_eq_div_mul, Nat.add_mul_div_right _ _ hs0, Nat.mul_div_cancel _ hs0, h0, Nat.zero_add]
  have e2 : (c + x * s) % 65536 = c + x * s % 65536 := by
    have h1 := Nat.div_add_mod (c + x * s) 65536
    have h2 := Nat.div_add_mod (x * s) 65536
    rw [e1] at h1
    omega
  have ed : (y + x * s * 65536 ^ k) / 65536 ^ k = c + x * s := by rw [hi_add _ _ _ hp, hcc]
  have hxs : x * s / 65536 < 65536 := by
    rw [Nat.div_lt_iff_lt_mul (by omega)]
    exact Nat.lt_of_lt_of_le (Nat.mul_lt_mul_of_pos_right hx hs0) (Nat.mul_le_mul_left _ hs1)
  apply ld_ext
  · simp [ld_len]
  intro j hj
  rw [List.getElem?_set, List.getElem?_set]
  by_cases h1 : k + 1 = j
  · subst h1
    rw [if_pos rfl, if_pos (by simp [ld_len]; omega)]
    rw [Nat.pow_succ, ← Nat.div_div_eq_div_mul, ed, e1, Nat.mod_eq_of_lt hxs]
  · rw [if_neg h1]
    by_cases h2 : k = j
    · subst h2
      rw [if_pos rfl, if_pos (by rw [ld_len]; omega), ed, e2, hcc, Nat.mod_eq_of_lt (show c < 65536 by omega)]
      rfl
    · rw [if_neg h2, ld_at _ _ _ hj]
      congr 2
      rcases Nat.lt_or_ge j k with h3 | h3
      · obtain ⟨d, rfl⟩ : ∃ d, k = j + 1 + d := ⟨k - j - 1, by omega⟩
        rw [Nat.pow_add, Nat.pow_succ, show x * s * (65536 ^ j * 65536 * 65536 ^ d) = x * s * 65536 ^ d * 65536 * 65536 ^ j from by ac_rfl, hi_add _ _ _ (Nat.pow_pos (by omega))]
        omega
      · obtain ⟨d, rfl⟩ : ∃ d, j = k + 1 + 1 + d := ⟨j - k - 2, by omega⟩
        rw [show 65536 ^ (k + 1 + 1 + d) = 65536 ^ k * (65536 * (65536 * 65536 ^ d)) from by rw [Nat.pow_add, Nat.pow_succ, Nat.pow_succ, Nat.mul_assoc, Nat.mul_assoc], ← Nat.div_div_eq_div_mul y, ← Nat.div_div_eq_div_mul (y + _), ed, hcc, ← Nat.div_div_eq_div_mul, ← Nat.div_div_eq_div_mul, ← Nat.div_div_eq_div_mul, ← Nat.div_div_eq_div_mul, e1, Nat.div_eq_of_lt hxs, Nat.div_eq_of_lt (show c < 65536 by omega), Nat.zero_div]

/-- A power of 2, by its digits. -/
theorem pow_digit (q r j : Nat) (hr : r < 16) : 2 ^ (16 * q + r) / 65536 ^ j % 65536 = if j = q then 2 ^ r else 0 := by
  have hpos : ∀ n : Nat, 0 < 2 ^ n := fun n => Nat.pow_pos (by omega)
  rw [pw]
  by_cases h : j = q
  · subst h
    rw [if_pos rfl, Nat.pow_add, Nat.mul_div_cancel_left _ (hpos _), Nat.mod_eq_of_lt (Nat.lt_of_lt_of_le (Nat.pow_lt_pow_right (by omega) hr) (by decide))]
  · rw [if_neg h]
    rcases Nat.lt_or_ge j q with h1 | h1
    · rw [Nat.pow_div (by omega) (by omega), show 16 * q + r - 16 * j = (16 * (q - j - 1) + r) + 16 from by omega, Nat.pow_add, show (2 : Nat) ^ 16 = 65536 from rfl, Nat.mul_mod_left]
    · rw [Nat.div_eq_of_lt (Nat.pow_lt_pow_right (by omega) (by omega))]
/-- Bit: the digits of a power of 2. -/
theorem bit_is (q r : Nat) (hr : r < 16) : (List.replicate (q + 1) (0 : Int)).set q ((2 ^ r : Nat) : Int) = dg (2 ^ (16 * q + r)) := by
  have hlt : 2 ^ (16 * q + r) < 65536 ^ (q + 1) := by rw [pw]; exact Nat.pow_lt_pow_right (by omega) (by omega)
  have hge : 65536 ^ q ≤ 2 ^ (16 * q + r) := by rw [pw]; exact Nat.pow_le_pow_right (by omega) (by omega)
  rw [← dg_of_ld _ q hlt hge]
  apply ld_ext
  · simp
  intro j hj
  rw [pow_digit q r j hr, List.getElem?_set]
  by_cases h : q = j
  · subst h; rw [if_pos rfl, if_pos (by simp), if_pos rfl]
  · rw [if_neg h, if_neg (fun e => h e.symm), List.getElem?_replicate, if_pos hj]; rfl

end Dg
end Go.Proofs.YtdpnoaaeplgdjaaGreatDoor
/-
  WHAT THE PRINTED FUNCTIONS OF PACKAGE spec COMPUTE, over the digits of natural numbers: plain Lean.
-/
namespace Go.Proofs.YtdpnoaaeplgdjaaGreatDoor
open Go.RowKit Go.Proofs.YtdpnoaaeplgdjaaGreatDoorW.PrintWords
namespace Dg

theorem w64 (x : Int) (h : -9223372036854775808 ≤ x) (h2 : x < 9223372036854775808) : wrap64 x = x := by unfold wrap64; omega
theorem rd_dg (n j : Nat) : rd (dg n) (j : Int) = ((n / 65536 ^ j % 65536 : Nat) : Int) := by
  unfold rd
  rw [show ((j : Int)).toNat = j from rfl]
  exact dg_getD n j
theorem rd_ld (n i j : Nat) (h : j < i) : rd (ld n i) (j : Int) = ((n / 65536 ^ j % 65536 : Nat) : Int) := by
  unfold rd
  rw [show ((j : Int)).toNat = j from rfl]
  exact ld_getD n i j h
theorem tdiv_nat (a b : Nat) : Int.tdiv (a : Int) (b : Int) = ((a / b : Nat) : Int) := by rw [Int.tdiv_eq_ediv_of_nonneg (by omega)]; rfl
theorem tmod_nat (a b : Nat) : Int.tmod (a : Int) (b : Int) = ((a % b : Nat) : Int) := by rw [Int.tmod_eq_emod_of_nonneg (by omega)]; rfl

theorem PAdd_trim : ∀ (i n k : Nat), i ≤ 1000000 → n < 65536 ^ i → i + 1 ≤ k → PAdd.spec_trim.l0 k (ld n i) = some (dg n)
  | 0, n, k, _, h, hk => by
    obtain ⟨K, rfl⟩ : ∃ K, k = K + 1 := ⟨k - 1, by omega⟩
    have h0 : n = 0 := by simpa using h
    subst h0
    rw [PAdd.spec_trim.l0, ld_zero]
    rfl
  | i + 1, n, k, hi, h, hk => by
    obtain ⟨K, rfl⟩ : ∃ K, k = K + 1 := ⟨k - 1, by omega⟩
    have e1 : wrap64 (((i + 1 : Nat) : Int) - 1) = (i : Int) := by rw [w64 _ (by omega) (by omega)]; omega
    have hq : n / 65536 ^ i < 65536 := by
      rw [Nat.div_lt_iff_lt_mul (Nat.pow_pos (by omega)), Nat.mul_comm, ← Nat.pow_succ]
      exact h
    rw [PAdd.spec_trim.l0, ld_len, e1, if_pos (by omega), if_pos (by omega), if_pos (by omega), rd_ld _ _ _ (by omega), Nat.mod_eq_of_lt hq]
    by_cases h0 : n / 65536 ^ i = 0
    · have hn : n < 65536 ^ i := by
        rcases Nat.lt_or_ge n (65536 ^ i) with h1 | h1
        · exact h1
        · have := Nat.div_pos h1 (Nat.pow_pos (by omega)); omega
      rw [if_pos (by omega), if_pos (by omega), show ((i : Int)).toNat = i from rfl, ld_take _ _ _ (by omega)]
      exact PAdd_trim i n K (by omega) hn (by omega)
    · rw [if_neg (by omega)]
      have hn : 65536 ^ i ≤ n := by
        rcases Nat.lt_or_ge n (65536 ^ i) with h1 | h1
        · exact absurd (Nat.div_eq_of_lt h1) h0
        · exact h1
      rw [dg_of_ld n i h hn]

theorem PSub_trim : ∀ (i n k : Nat), i ≤ 1000000 → n < 65536 ^ i → i + 1 ≤ k → PSub.spec_trim.l0 k (ld n i) = some (dg n)
  | 0, n, k, _, h, hk => by
    obtain ⟨K, rfl⟩ : ∃ K, k = K + 1 := ⟨k - 1, by omega⟩
    have h0 : n = 0 := by simpa using h
    subst h0
    rw [PSub.spec_trim.l0, ld_zero]
    rfl
  | i + 1, n, k, hi, h, hk => by
    obtain ⟨K, rfl⟩ : ∃ K, k = K + 1 := ⟨k - 1, by omega⟩
    have e1 : wrap64 (((i + 1 : Nat) : Int) - 1) = (i : Int) := by rw [w64 _ (by omega) (by omega)]; omega
    have hq : n / 65536 ^ i < 65536 := by
      rw [Nat.div_lt_iff_lt_mul (Nat.pow_pos (by omega)), Nat.mul_comm, ← Nat.pow_succ]
      exact h
    rw [PSub.spec_trim.l0, ld_len, e1, if_pos (by omega), if_pos (by omega), if_pos (by omega), rd_ld _ _ _ (by omega), Nat.mod_eq_of_lt hq]
    by_cases h0 : n / 65536 ^ i = 0
    · have hn : n < 65536 ^ i := by
        rcases Nat.lt_or_ge n (65536 ^ i) with h1 | h1
        · exact h1
        · have := Nat.div_pos h1 (Nat.pow_pos (by omega)); omega
      rw [if_pos (by omega), if_pos (by omega), show ((i : Int)).toNat = i from rfl, ld_take _ _ _ (by omega)]
      exact PSub_trim i n K (by omega) hn (by omega)
    · rw [if_neg (by omega)]
      have hn : 65536 ^ i ≤ n := by
        rcases Nat.lt_or_ge n (65536 ^ i) with h1 | h1
        · exact absurd (Nat.div_eq_of_lt h1) h0
        · exact h1
      rw [dg_of_ld n i h hn]

theorem PMul_trim : ∀ (i n k : Nat), i ≤ 1000000 → n < 65536 ^ i → i + 1 ≤ k → PMul.spec_trim.l0 k (ld n i) = some (dg n)
  | 0, n, k, _, h, hk => by
    obtain ⟨K, rfl⟩ : ∃ K, k = K + 1 := ⟨k - 1, by omega⟩
    have h0 : n = 0 := by simpa using h
    subst h0
    rw [PMul.spec_trim.l0, ld_zero]
    rfl
  | i + 1, n, k, hi, h, hk => by
    obtain ⟨K, rfl⟩ : ∃ K, k = K + 1 := ⟨k - 1, by omega⟩
    have e1 : wrap64 (((i + 1 : Nat) : Int) - 1) = (i : Int) := by rw [w64 _ (by omega) (by omega)]; omega
    have hq : n / 65536 ^ i < 65536 := by
      rw [Nat.div_lt_iff_lt_mul (Nat.pow_pos (by omega)), Nat.mul_comm, ← Nat.pow_succ]
      exact h
    rw [PMul.spec_trim.l0, ld_len, e1, if_pos (by omega), if_pos (by omega), if_pos (by omega), rd_ld _ _ _ (by omega), Nat.mod_eq_of_lt hq]
    by_cases h0 : n / 65536 ^ i = 0
    · have hn : n < 65536 ^ i := by
        rcases Nat.lt_or_ge n (65536 ^ i) with h1 | h1
        · exact h1
        · have := Nat.div_pos h1 (Nat.pow_pos (by omega)); omega
      rw [if_pos (by omega), if_pos (by omega), show ((i : Int)).toNat = i from rfl, ld_take _ _ _ (by omega)]
      exact PMul_trim i n K (by omega) hn (by omega)
    · rw [if_neg (by omega)]
      have hn : 65536 ^ i ≤ n := by
        rcases Nat.lt_or_ge n (65536 ^ i) with h1 | h1
        · exact absurd (Nat.div_eq_of_lt h1) h0
        · exact h1
      rw [dg_of_ld n i h hn]

theorem POf64_trim : ∀ (i n k : Nat), i ≤ 1000000 → n < 65536 ^ i → i + 1 ≤ k → POf64.spec_trim.l0 k (ld n i) = some (dg n)
  | 0, n, k, _, h, hk => by
    obtain ⟨K, rfl⟩ : ∃ K, k = K + 1 := ⟨k - 1, by omega⟩
    have h0 : n = 0 := by simpa using h
    subst h0
    rw [POf64.spec_trim.l0, ld_zero]
    rfl
  | i + 1, n, k, hi, h, hk => by
    obtain ⟨K, rfl⟩ : ∃ K, k = K + 1 := ⟨k - 1, by omega⟩
    have e1 : wrap64 (((i + 1 : Nat) : Int) - 1) = (i : Int) := by rw [w64 _ (by omega) (by omega)]; omega
    have hq : n / 65536 ^ i < 65536 := by
      rw [Nat.div_lt_iff_lt_mul (Nat.pow_pos (by omega)), Nat.mul_comm, ← Nat.pow_succ]
      exact h
    rw [POf64.spec_trim.l0, ld_len, e1, if_pos (by omega), if_pos (by omega), if_pos (by omega), rd_ld _ _ _ (by omega), Nat.mod_eq_of_lt hq]
    by_cases h0 : n / 65536 ^ i = 0
    · have hn : n < 65536 ^ i := by
        rcases Nat.lt_or_ge n (65536 ^ i) with h1 | h1
        · exact h1
        · have := Nat.div_pos h1 (Nat.pow_pos (by omega)); omega
      rw [if_pos (by omega), if_pos (by omega), show ((i : Int)).toNat = i from rfl, ld_take _ _ _ (by omega)]
      exact POf64_trim i n K (by omega) hn (by omega)
    · rw [if_neg (by omega)]
      have hn : 65536 ^ i ≤ n := by
        rcases Nat.lt_or_ge n (65536 ^ i) with h1 | h1
        · exact absurd (Nat.div_eq_of_lt h1) h0
        · exact h1
      rw [dg_of_ld n i h hn]

theorem Pquoted_trim : ∀ (i n k : Nat), i ≤ 1000000 → n < 65536 ^ i → i + 1 ≤ k → Pquoted.spec_trim.l0 k (ld n i) = some (dg n)
  | 0, n, k, _, h, hk => by
    obtain ⟨K, rfl⟩ : ∃ K, k = K + 1 := ⟨k - 1, by omega⟩
    have h0 : n = 0 := by simpa using h
    subst h0
    rw [Pquoted.spec_trim.l0, ld_zero]
    rfl
  | i + 1, n, k, hi, h, hk => by
    obtain ⟨K, rfl⟩ : ∃ K, k = K + 1 := ⟨k - 1, by omega⟩
    have e1 : wrap64 (((i + 1 : Nat) : Int) - 1) = (i : Int) := by rw [w64 _ (by omega) (by omega)]; omega
    have hq : n / 65536 ^ i < 65536 := by
      rw [Nat.div_lt_iff_lt_mul (Nat.pow_pos (by omega)), Nat.mul_comm, ← Nat.pow_succ]
      exact h
    rw [Pquoted.spec_trim.l0, ld_len, e1, if_pos (by omega), if_pos (by omega), if_pos (by omega), rd_ld _ _ _ (by omega), Nat.mod_eq_of_lt hq]
    by_cases h0 : n / 65536 ^ i = 0
    · have hn : n < 65536 ^ i := by
        rcases Nat.lt_or_ge n (65536 ^ i) with h1 | h1
        · exact h1
        · have := Nat.div_pos h1 (Nat.pow_pos (by omega)); omega
      rw [if_pos (by omega), if_pos (by omega), show ((i : Int)).toNat = i from rfl, ld_take _ _ _ (by omega)]
      exact Pquoted_trim i n K (by omega) hn (by omega)
    · rw [if_neg (by omega)]
      have hn : 65536 ^ i ≤ n := by
        rcases Nat.lt_or_ge n (65536 ^ i) with h1 | h1
        · exact absurd (Nat.div_eq_of_lt h1) h0
        · exact h1
      rw [dg_of_ld n i h hn]

theorem POf64_small_from (n : Nat) (hn : n < 9223372036854775808) (hd : dlen n ≤ 1000) : ∀ (d i k : Nat), i + d = dlen n → d + 1 ≤ k → POf64.spec_Small.l0 k ((n / 65536 ^ i : Nat) : Int) (ld n i) = some (dg n)
  | 0, i, k, h, hk => by
    obtain ⟨K, rfl⟩ : ∃ K, k = K + 1 := ⟨k - 1, by omega⟩
    have h1 : n < 65536 ^ i := (dlen_le_iff n i).1 (by omega)
    rw [POf64.spec_Small.l0, Nat.div_eq_of_lt h1, if_neg (by decide)]
    have : i = dlen n := by omega
    subst this
    rfl
  | d + 1, i, k, h, hk => by
    obtain ⟨K, rfl⟩ : ∃ K, k = K + 1 := ⟨k - 1, by omega⟩
    have h1 : 65536 ^ i ≤ n := by
      rcases Nat.lt_or_ge n (65536 ^ i) with h1 | h1
      · have := (dlen_le_iff n i).2 h1; omega
      · exact h1
    have h2 : 0 < n / 65536 ^ i := Nat.div_pos h1 (Nat.pow_pos (by omega))
    have h3 : n / 65536 ^ i ≤ n := Nat.div_le_self _ _
    have h4 : n / 65536 ^ i / 65536 ≤ n / 65536 ^ i := Nat.div_le_self _ _
    rw [POf64.spec_Small.l0, if_pos (by omega), if_pos (by rw [ld_len]; omega)]
    rw [show (65536 : Int) = ((65536 : Nat) : Int) from rfl, tdiv_nat, tmod_nat, w64 _ (by omega) (by omega), Nat.div_div_eq_div_mul, ← Nat.pow_succ, ← ld_succ]
    exact POf64_small_from n hn hd d (i + 1) K (by omega) (by omega)

theorem POf64_small (n : Nat) (hn : n < 9223372036854775808) (k : Nat) (hk : 10 ≤ k) : POf64.spec_Small.f k (n : Int) = some (dg n) := by
  have hd : dlen n ≤ 4 := (dlen_le_iff n 4).2 (by omega)
  have := POf64_small_from n hn (by omega) (dlen n) 0 k (by omega) (by omega)
  rw [Nat.pow_zero, Nat.div_one] at this
  exact this

theorem Pquoted_small_from (n : Nat) (hn : n < 9223372036854775808) (hd : dlen n ≤ 1000) : ∀ (d i k : Nat), i + d = dlen n → d + 1 ≤ k → Pquoted.spec_Small.l0 k ((n / 65536 ^ i : Nat) : Int) (ld n i) = some (dg n)
  | 0, i, k, h, hk => by
    obtain ⟨K, rfl⟩ : ∃ K, k = K + 1 := ⟨k - 1, by omega⟩
    have h1 : n < 65536 ^ i := (dlen_le_iff n i).1 (by omega)
    rw [Pquoted.spec_Small.l0, Nat.div_eq_of_lt h1, if_neg (by decide)]
    have : i = dlen n := by omega
    subst this
    rfl
  | d + 1, i, k, h, hk => by
    obtain ⟨K, rfl⟩ : ∃ K, k = K + 1 := ⟨k - 1, by omega⟩
    have h1 : 65536 ^ i ≤ n := by
      rcases Nat.lt_or_ge n (65536 ^ i) with h1 | h1
      · have := (dlen_le_iff n i).2 h1; omega
      · exact h1
    have h2 : 0 < n / 65536 ^ i := Nat.div_pos h1 (Nat.pow_pos (by omega))
    have h3 : n / 65536 ^ i ≤ n := Nat.div_le_self _ _
    have h4 : n / 65536 ^ i / 65536 ≤ n / 65536 ^ i := Nat.div_le_self _ _
    rw [Pquoted.spec_Small.l0, if_pos (by omega), if_pos (by rw [ld_len]; omega)]
    rw [show (65536 : Int) = ((65536 : Nat) : Int) from rfl, tdiv_nat, tmod_nat, w64 _ (by omega) (by omega), Nat.div_div_eq_div_mul, ← Nat.pow_succ, ← ld_succ]
    exact Pquoted_small_from n hn hd d (i + 1) K (by omega) (by omega)

theorem Pquoted_small (n : Nat) (hn : n < 9223372036854775808) (k : Nat) (hk : 10 ≤ k) : Pquoted.spec_Small.f k (n : Int) = some (dg n) := by
  have hd : dlen n ≤ 4 := (dlen_le_iff n 4).2 (by omega)
  have := Pquoted_small_from n hn (by omega) (dlen n) 0 k (by omega) (by omega)
  rw [Nat.pow_zero, Nat.div_one] at this
  exact this

theorem add_round (K : Nat) (A Bl acc : List Int) (i C x y : Nat) (res : Option (List Int)) (hx : x < 65536) (hy : y < 65536) (hC : C < 2) (rda : rd A (i : Int) = (x : Int)) (rdb : rd Bl (i : Int) = (y : Int))
    (za : ¬ i < A.length → x = 0) (zb : ¬ i < Bl.length → y = 0) (hacc : acc.length < 17592186044416) (hi : i < 1000000) (hor : i < A.length ∨ i < Bl.length)
    (h : PAdd.spec_Add.l0 K A Bl (acc ++ [(((C + x + y) % 65536 : Nat) : Int)]) (((C + x + y) / 65536 : Nat) : Int) ((i + 1 : Nat) : Int) = res) : PAdd.spec_Add.l0 (K + 2) A Bl acc (C : Int) (i : Int) = res := by
  have wi : wrap64 ((i : Int) + 1) = ((i + 1 : Nat) : Int) := by rw [w64 _ (by omega) (by omega)]; omega
  have i0 : (0 : Int) ≤ (i : Int) := by omega
  have fin : ∀ s : Int, s = ((C + x + y : Nat) : Int) → PAdd.spec_Add.l0 K A Bl (acc ++ [Int.tmod s 65536]) (wrap64 (Int.tdiv s 65536)) (wrap64 ((i : Int) + 1)) = res := by
    intro s hs
    rw [hs, wi, show (65536 : Int) = ((65536 : Nat) : Int) from rfl, tdiv_nat, tmod_nat, w64 _ (by omega) (by omega)]
    exact h
  clear h
  have w1 : wrap64 ((C : Int) + (x : Int)) = ((C + x : Nat) : Int) := by rw [w64 _ (by omega) (by omega)]; omega
  have w2 : wrap64 ((C : Int) + (y : Int)) = ((C + y : Nat) : Int) := by rw [w64 _ (by omega) (by omega)]; omega
  have w3 : wrap64 (((C + x : Nat) : Int) + (y : Int)) = ((C + x + y : Nat) : Int) := by rw [w64 _ (by omega) (by omega)]; omega
  have body : ∀ q : Bool, q = true → PAdd.spec_Add.j1 (K + 1) A Bl acc (C : Int) (i : Int) q = res := by
    intro q hq
    rw [PAdd.spec_Add.j1, if_pos hq, rda, rdb, w1, w2, w3]
    by_cases h1 : i < A.length
    · rw [if_pos (Int.ofNat_lt.2 h1), if_pos i0]
      by_cases h2 : i < Bl.length
      · rw [if_pos (Int.ofNat_lt.2 h2), if_pos hacc]
        exact fin _ rfl
      · have hz := zb h2
        rw [if_neg (fun h9 => h2 (Int.ofNat_lt.1 h9)), if_pos hacc]
        exact fin _ (by rw [hz]; rfl)
    · have hz := za h1
      rw [if_neg (fun h9 => h1 (Int.ofNat_lt.1 h9))]
      rcases hor with h2 | h2
      · exact absurd h2 h1
      · rw [if_pos (Int.ofNat_lt.2 h2), if_pos i0, if_pos hacc]
        exact fin _ (by rw [hz]; rfl)
  rw [PAdd.spec_Add.l0]
  by_cases h1 : i < A.length
  · rw [if_pos (Int.ofNat_lt.2 h1)]
    exact body _ rfl
  · rw [if_neg (fun h9 => h1 (Int.ofNat_lt.1 h9))]
    refine body _ (decide_eq_true ?_)
    rcases hor with h2 | h2
    · exact absurd h2 h1
    · exact Int.ofNat_lt.2 h2

/-- The sum. -/
theorem add_from (a b : Nat) (ha : dlen a ≤ 1000) (hb : dlen b ≤ 1000) : ∀ (d i k : Nat), i + d = max (dlen a) (dlen b) → 2 * d + 2005 ≤ k →
    PAdd.spec_Add.l0 k (dg a) (dg b) (ld (a + b) i) (((a % 65536 ^ i + b % 65536 ^ i) / 65536 ^ i : Nat) : Int) (i : Int) = some (dg (a + b))
  | 0, i, k, h, hk => by
    obtain ⟨K, rfl⟩ : ∃ K, k = K + 2 := ⟨k - 2, by omega⟩
    have hA : a < 65536 ^ i := (dlen_le_iff a i).1 (by omega)
    have hB : b < 65536 ^ i := (dlen_le_iff b i).1 (by omega)
    have h1 : ¬ ((i : Int) < (dlen a : Int)) := by omega
    have h2 : ¬ (decide ((i : Int) < (dlen b : Int)) = true) := by simp; omega
    have h3 : i < 17592186044416 := by omega
    have h4 : i + 1 ≤ 1000000 := by omega
    have e1 : ld (a + b) i ++ [(((a % 65536 ^ i + b % 65536 ^ i) / 65536 ^ i : Nat) : Int)] = ld (a + b) (i + 1) := by
      have : (a + b) / 65536 ^ i < 2 := by rw [Nat.div_lt_iff_lt_mul (Nat.pow_pos (by decide))]; omega
      rw [ld_succ, Nat.mod_eq_of_lt hA, Nat.mod_eq_of_lt hB, Nat.mod_eq_of_lt (Nat.lt_trans this (by decide))]
    have e2 : a + b < 65536 ^ (i + 1) := by rw [Nat.pow_succ]; omega
    have e3 : i + 1 + 1 ≤ K := by omega
    clear hA hB h hk
    rw [PAdd.spec_Add.l0, dg_len, dg_len, if_neg h1, PAdd.spec_Add.j1, if_neg h2, ld_len, if_pos h3, e1, PAdd.spec_trim.f, PAdd_trim (i + 1) (a + b) K h4 e2 e3]
    rfl
  | d + 1, i, k, h, hk => by
    obtain ⟨K, rfl⟩ : ∃ K, k = K + 2 := ⟨k - 2, by omega⟩
    obtain ⟨s1, s2⟩ := add_step a b i
    have ih := add_from a b ha hb d (i + 1) K (by omega) (by omega)
    rw [← s2, ld_succ, ← s1] at ih
    have hp : 0 < 65536 ^ i := Nat.pow_pos (by decide)
    have hc : (a % 65536 ^ i + b % 65536 ^ i) / 65536 ^ i < 2 := by
      have := Nat.mod_lt a hp
      have := Nat.mod_lt b hp
      rw [Nat.div_lt_iff_lt_mul hp]; omega
    refine add_round K (dg a) (dg b) (ld (a + b) i) i _ _ _ _ (digit_lt a i) (digit_lt b i) hc (rd_dg a i) (rd_dg b i) (fun h9 => high_zero a i ?_) (fun h9 => high_zero b i ?_) ?_ ?_ ?_ ih
    · rw [dg_len] at h9; omega
    · rw [dg_len] at h9; omega
    · rw [ld_len]; omega
    · omega
    · rw [dg_len, dg_len]; omega

theorem add_is (a b : Nat) (ha : dlen a ≤ 1000) (hb : dlen b ≤ 1000) (k : Nat) (hk : 5000 ≤ k) : PAdd.spec_Add.f k (dg a) (dg b) = some (dg (a + b)) := by
  have := add_from a b ha hb (max (dlen a) (dlen b)) 0 k (by omega) (by omega)
  simp only [Nat.pow_zero, Nat.mod_one, Nat.zero_add, Nat.zero_div, ld_zero] at this
  exact this

end Dg
end Go.Proofs.YtdpnoaaeplgdjaaGreatDoor
/-
  WHAT THE PRINTED FUNCTIONS OF PACKAGE spec COMPUTE, second part: Sub, Cmp, Len, byDigit.
-/
namespace Go.Proofs.YtdpnoaaeplgdjaaGreatDoor
open Go.RowKit Go.Proofs.YtdpnoaaeplgdjaaGreatDoorW.PrintWords
namespace Dg

theorem sub_round (K : Nat) (A Bl acc : List Int) (i x y br : Nat) (res : Option (List Int)) (hx : x < 65536) (hy : y < 65536) (hbr : br ≤ 1) (rda : rd A (i : Int) = (x : Int)) (rdb : rd Bl (i : Int) = (y : Int))
    (zb : ¬ i < Bl.length → y = 0) (hacc : acc.length < 17592186044416) (hi : i < 1000000) (hor : i < A.length)
    (h : PSub.spec_Sub.l0 K Bl (acc ++ [if (x : Int) - (br : Int) - (y : Int) < 0 then (x : Int) - (br : Int) - (y : Int) + 65536 else (x : Int) - (br : Int) - (y : Int)]) (if (x : Int) - (br : Int) - (y : Int) < 0 then 1 else 0) A (A.length : Int) ((i + 1 : Nat) : Int) = res) :
    PSub.spec_Sub.l0 (K + 1) Bl acc (br : Int) A (A.length : Int) (i : Int) = res := by
  have wi : wrap64 ((i : Int) + 1) = ((i + 1 : Nat) : Int) := by rw [w64 _ (by omega) (by omega)]; omega
  have i0 : (0 : Int) ≤ (i : Int) := by omega
  have w1 : wrap64 ((x : Int) - (br : Int)) = (x : Int) - (br : Int) := w64 _ (by omega) (by omega)
  have w2 : wrap64 ((x : Int) - (br : Int) - (y : Int)) = (x : Int) - (br : Int) - (y : Int) := w64 _ (by omega) (by omega)
  have w3 : wrap64 ((x : Int) - (br : Int) - (y : Int) + 65536) = (x : Int) - (br : Int) - (y : Int) + 65536 := w64 _ (by omega) (by omega)
  have w4 : wrap64 ((x : Int) - (br : Int) + 65536) = (x : Int) - (br : Int) + 65536 := w64 _ (by omega) (by omega)
  rw [PSub.spec_Sub.l0, if_pos (Int.ofNat_lt.2 hor), if_pos i0, if_pos (Int.ofNat_lt.2 hor), rda, rdb, w1, w2, w3, w4, wi]
  by_cases h2 : i < Bl.length
  · rw [if_pos (Int.ofNat_lt.2 h2)]
    by_cases h3 : (x : Int) - (br : Int) - (y : Int) < 0
    · rw [if_pos h3, if_pos hacc]; rw [if_pos h3, if_pos h3] at h; exact h
    · rw [if_neg h3, if_pos hacc]; rw [if_neg h3, if_neg h3] at h; exact h
  · have hz := zb h2
    subst hz
    rw [if_neg (fun h9 => h2 (Int.ofNat_lt.1 h9))]
    rw [show ((0 : Nat) : Int) = 0 from rfl, Int.sub_zero] at h
    by_cases h3 : (x : Int) - (br : Int) < 0
    · rw [if_pos h3, if_pos hacc]; rw [if_pos h3, if_pos h3] at h; exact h
    · rw [if_neg h3, if_pos hacc]; rw [if_neg h3, if_neg h3] at h; exact h

/-- The difference. -/
theorem sub_from (a b : Nat) (hab : b ≤ a) (ha : dlen a ≤ 1000) : ∀ (d i k : Nat), i + d = dlen a → d + 2005 ≤ k →
    PSub.spec_Sub.l0 k (dg b) (ld (a - b) i) (((if a % 65536 ^ i < b % 65536 ^ i then 1 else 0 : Nat) : Int)) (dg a) ((dg a).length : Int) (i : Int) = some (dg (a - b))
  | 0, i, k, h, hk => by
    obtain ⟨K, rfl⟩ : ∃ K, k = K + 1 := ⟨k - 1, by omega⟩
    have hA : a < 65536 ^ i := (dlen_le_iff a i).1 (by omega)
    have h1 : ¬ ((i : Int) < ((dg a).length : Int)) := by rw [dg_len]; omega
    rw [PSub.spec_Sub.l0, if_neg h1, PSub.spec_trim.f, PSub_trim i (a - b) K (by omega) (by omega) (by omega)]
    rfl
  | d + 1, i, k, h, hk => by
    obtain ⟨K, rfl⟩ : ∃ K, k = K + 1 := ⟨k - 1, by omega⟩
    obtain ⟨s1, s2⟩ := sub_step a b i hab
    have ih := sub_from a b hab ha d (i + 1) K (by omega) (by omega)
    refine sub_round K (dg a) (dg b) (ld (a - b) i) i _ _ _ _ (digit_lt a i) (digit_lt b i) (by split <;> omega) (rd_dg a i) (rd_dg b i) (fun h9 => high_zero b i ?_) ?_ ?_ ?_ ?_
    · rw [dg_len] at h9; omega
    · rw [ld_len]; omega
    · omega
    · rw [dg_len]; omega
    · have e1 : ((if a % 65536 ^ i < b % 65536 ^ i then 1 else 0 : Nat) : Int) = (if a % 65536 ^ i < b % 65536 ^ i then (1 : Int) else 0) := by split <;> rfl
      rw [e1, s1, ← ld_succ]
      have e2 : ((if a % 65536 ^ (i + 1) < b % 65536 ^ (i + 1) then 1 else 0 : Nat) : Int) = (if ((a / 65536 ^ i % 65536 : Nat) : Int) - (if a % 65536 ^ i < b % 65536 ^ i then (1 : Int) else 0) - ((b / 65536 ^ i % 65536 : Nat) : Int) < 0 then (1 : Int) else 0) := by
        by_cases h5 : a % 65536 ^ (i + 1) < b % 65536 ^ (i + 1)
        · rw [if_pos h5, if_pos (s2.2 h5)]; rfl
        · rw [if_neg h5, if_neg (fun h6 => h5 (s2.1 h6))]; rfl
      rw [← e2]
      exact ih

theorem sub_is (a b : Nat) (hab : b ≤ a) (ha : dlen a ≤ 1000) (k : Nat) (hk : 5000 ≤ k) : PSub.spec_Sub.f k (dg a) (dg b) = some (dg (a - b)) := by
  have := sub_from a b hab ha (dlen a) 0 k (by omega) (by omega)
  simp only [Nat.pow_zero, Nat.mod_one, Nat.lt_irrefl, if_false, ld_zero] at this
  exact this

/-- -1, 0 or 1. -/
def cmpN (a b : Nat) : Int := if a < b then -1 else if b < a then 1 else 0

/-- The comparison, from the top. -/
theorem cmp_from (a b : Nat) (n : Nat) (hla : (dg a).length = n) (hlb : (dg b).length = n) (hn : n ≤ 1000) : ∀ (i k : Nat), i ≤ n → a / 65536 ^ i = b / 65536 ^ i → i + 1 ≤ k →
    Psame.spec_Cmp.l0 k (dg a) (dg b) ((i : Int) - 1) = some (cmpN a b)
  | 0, k, _, h, hk => by
    obtain ⟨K, rfl⟩ : ∃ K, k = K + 1 := ⟨k - 1, by omega⟩
    rw [Psame.spec_Cmp.l0, if_neg (by omega)]
    simp only [Nat.pow_zero, Nat.div_one] at h
    subst h
    simp [cmpN]
  | i + 1, k, hi, h, hk => by
    obtain ⟨K, rfl⟩ : ∃ K, k = K + 1 := ⟨k - 1, by omega⟩
    have e0 : ((i + 1 : Nat) : Int) - 1 = (i : Int) := by omega
    have hp : 0 < 65536 ^ i := Nat.pow_pos (by decide)
    have wi : wrap64 ((i : Int) - 1) = (i : Int) - 1 := w64 _ (by omega) (by omega)
    have ea : a / 65536 ^ (i + 1) = a / 65536 ^ i / 65536 := by rw [Nat.pow_succ, Nat.div_div_eq_div_mul]
    have eb : b / 65536 ^ (i + 1) = b / 65536 ^ i / 65536 := by rw [Nat.pow_succ, Nat.div_div_eq_div_mul]
    have ih := fun h9 => cmp_from a b n hla hlb hn i K (by omega) h9 (by omega)
    have hlt : a / 65536 ^ i < b / 65536 ^ i → a < b := fun h9 => by
      rcases Nat.lt_or_ge a b with h1 | h1
      · exact h1
      · have := Nat.div_le_div_right (c := 65536 ^ i) h1; omega
    have hgt : b / 65536 ^ i < a / 65536 ^ i → b < a := fun h9 => by
      rcases Nat.lt_or_ge b a with h1 | h1
      · exact h1
      · have := Nat.div_le_div_right (c := 65536 ^ i) h1; omega
    rw [e0, Psame.spec_Cmp.l0, if_pos (by omega), if_pos (by omega), hla, hlb, if_pos (by omega), if_pos (by omega), rd_dg, rd_dg, wi]
    rw [ea, eb] at h
    obtain ⟨X, hX⟩ : ∃ X, a / 65536 ^ i = X := ⟨_, rfl⟩
    obtain ⟨Y, hY⟩ : ∃ Y, b / 65536 ^ i = Y := ⟨_, rfl⟩
    rw [hX, hY] at h hlt hgt ih ⊢
    clear ea eb hX hY hp
    by_cases h1 : X % 65536 < Y % 65536
    · rw [if_pos (by omega)]
      have := hlt (by omega)
      simp [cmpN, this]
    · rw [if_neg (by omega)]
      by_cases h2 : Y % 65536 < X % 65536
      · rw [if_pos (by omega)]
        have := hgt (by omega)
        have h3 : ¬ a < b := by omega
        simp [cmpN, this, h3]
      · rw [if_neg (by omega)]
        exact ih (by omega)

theorem cmp_is (a b : Nat) (ha : dlen a ≤ 1000) (k : Nat) (hk : 5000 ≤ k) : Psame.spec_Cmp.f k (dg a) (dg b) = some (cmpN a b) := by
  unfold Psame.spec_Cmp.f
  rw [dg_len, dg_len]
  by_cases h1 : dlen a < dlen b
  · rw [if_pos (by omega)]
    have : a < b := by
      rcases Nat.lt_or_ge a b with h9 | h9
      · exact h9
      · have := dlen_mono h9; omega
    simp [cmpN, this]
  · rw [if_neg (by omega)]
    by_cases h2 : dlen b < dlen a
    · rw [if_pos (by omega)]
      have h3 : b < a := by
        rcases Nat.lt_or_ge b a with h9 | h9
        · exact h9
        · have := dlen_mono h9; omega
      have h4 : ¬ a < b := by omega
      simp [cmpN, h3, h4]
    · rw [if_neg (by omega), w64 _ (by omega) (by omega)]
      refine cmp_from a b (dlen a) (dg_len a) (by rw [dg_len]; omega) ha (dlen a) k (Nat.le_refl _) ?_ (by omega)
      rw [Nat.div_eq_of_lt (dlen_lt a), Nat.div_eq_of_lt ((dlen_le_iff b (dlen a)).1 (by omega))]

end Dg
end Go.Proofs.YtdpnoaaeplgdjaaGreatDoor
/-
  WHAT THE PRINTED FUNCTIONS OF PACKAGE spec COMPUTE, third part: byDigit, Len, Mul by 1.
-/
namespace Go.Proofs.YtdpnoaaeplgdjaaGreatDoor
open Go.RowKit Go.Proofs.YtdpnoaaeplgdjaaGreatDoorW.PrintWords
namespace Dg

/-- n places, the digits of q from the place i on, 0 ahead of it. -/
def hi (q n i : Nat) : List Int := (List.range n).map fun j => if i ≤ j then ((q / 65536 ^ j % 65536 : Nat) : Int) else 0
theorem hi_len (q n i : Nat) : (hi q n i).length = n := by simp [hi]
theorem hi_all (q n : Nat) : hi q n 0 = ld q n := by simp [hi, ld]
theorem hi_none (q n : Nat) : hi q n n = List.replicate n 0 := by
  apply List.ext_getElem
  · simp [hi]
  · intro j h1 h2
    have : j < n := by simpa [hi] using h1
    have h3 : ¬ n ≤ j := by omega
    simp [hi, h3]
theorem hi_set (q n i : Nat) : (hi q n (i + 1)).set i ((q / 65536 ^ i % 65536 : Nat) : Int) = hi q n i := by
  apply List.ext_getElem
  · simp [hi]
  · intro j h1 h2
    rw [List.getElem_set]
    by_cases hj : i = j
    · subst hj; simp [hi]
    · rw [if_neg hj]
      by_cases h3 : i + 1 ≤ j
      · have h4 : i ≤ j := by omega
        simp [hi, h3, h4]
      · have h4 : ¬ i ≤ j := by omega
        simp [hi, h3, h4]

theorem div_step (a d i : Nat) (hd : 0 < d) :
    (a / 65536 ^ (i + 1) % d * 65536 + a / 65536 ^ i % 65536) % d = a / 65536 ^ i % d ∧ (a / 65536 ^ (i + 1) % d * 65536 + a / 65536 ^ i % 65536) / d = a / d / 65536 ^ i % 65536 := by
  have e1 : a / 65536 ^ (i + 1) = a / 65536 ^ i / 65536 := by rw [Nat.pow_succ, Nat.div_div_eq_div_mul]
  have e2 : a / d / 65536 ^ i = a / 65536 ^ i / d := by rw [Nat.div_div_eq_div_mul, Nat.mul_comm, ← Nat.div_div_eq_div_mul]
  rw [e1, e2]
  obtain ⟨Y, hY⟩ : ∃ Y, a / 65536 ^ i = Y := ⟨_, rfl⟩
  rw [hY]
  clear e1 e2 hY
  have h1 := Nat.div_add_mod Y 65536
  have h2 := Nat.div_add_mod (Y / 65536) d
  have h3 := Nat.mod_lt (Y / 65536) hd
  have h4 := Nat.mod_lt Y (show 0 < 65536 by decide)
  obtain ⟨u, hu⟩ : ∃ u, Y / 65536 / d = u := ⟨_, rfl⟩
  obtain ⟨v, hv⟩ : ∃ v, Y / 65536 % d = v := ⟨_, rfl⟩
  obtain ⟨t, ht⟩ : ∃ t, Y % 65536 = t := ⟨_, rfl⟩
  rw [hu, hv] at h2
  rw [ht] at h1 h4
  rw [hv] at h3
  rw [hv, ht]
  have hYe : Y = (v * 65536 + t) + d * (u * 65536) := by
    rw [← h1, ← h2, ← Nat.mul_assoc]
    generalize d * u = w
    omega
  have hs : (v * 65536 + t) / d < 65536 := by
    rw [Nat.div_lt_iff_lt_mul hd]
    have := Nat.mul_le_mul_right 65536 h3
    rw [Nat.succ_mul] at this
    rw [Nat.mul_comm 65536 d]
    omega
  constructor
  · rw [hYe, Nat.add_mul_mod_self_left]
  · rw [hYe, Nat.add_mul_div_left _ _ hd, Nat.add_mul_mod_self_right, Nat.mod_eq_of_lt hs]

/-- The quotient and the remainder by a small number. -/
theorem byDigit_from (a d : Nat) (hd : 0 < d) (hd2 : d < 65536) (ha : dlen a ≤ 1000) : ∀ (i k : Nat), i ≤ dlen a → i + 2005 ≤ k →
    Pquoted.spec_byDigit.l0 k (dg a) (d : Int) (hi (a / d) (dlen a) i) ((a / 65536 ^ i % d : Nat) : Int) ((i : Int) - 1) = some (dg (a / d), ((a % d : Nat) : Int))
  | 0, k, _, hk => by
    obtain ⟨K, rfl⟩ : ∃ K, k = K + 1 := ⟨k - 1, by omega⟩
    rw [Pquoted.spec_byDigit.l0, if_neg (by omega), hi_all, Pquoted.spec_trim.f, Pquoted_trim (dlen a) (a / d) K (by omega) (Nat.lt_of_le_of_lt (Nat.div_le_self _ _) (dlen_lt a)) (by omega), Nat.pow_zero, Nat.div_one]
    rfl
  | i + 1, k, hi', hk => by
    obtain ⟨K, rfl⟩ : ∃ K, k = K + 1 := ⟨k - 1, by omega⟩
    have e0 : ((i + 1 : Nat) : Int) - 1 = (i : Int) := by omega
    have ih := byDigit_from a d hd hd2 ha i K (by omega) (by omega)
    obtain ⟨s1, s2⟩ := div_step a d i hd
    have h1 := Nat.mod_lt (a / 65536 ^ (i + 1)) hd
    have h2 := digit_lt a i
    have h3 : (a / 65536 ^ (i + 1) % d * 65536 + a / 65536 ^ i % 65536) / d ≤ a / 65536 ^ (i + 1) % d * 65536 + a / 65536 ^ i % 65536 := Nat.div_le_self _ _
    rw [e0, Pquoted.spec_byDigit.l0, if_pos (by omega), if_pos (by omega), dg_len, hi_len, if_pos (by omega), if_neg (by omega), if_pos (by omega), rd_dg]
    rw [← hi_set, ← s2, ← s1] at ih
    clear s1 s2
    obtain ⟨x, hx⟩ : ∃ x, a / 65536 ^ (i + 1) % d = x := ⟨_, rfl⟩
    obtain ⟨y, hy⟩ : ∃ y, a / 65536 ^ i % 65536 = y := ⟨_, rfl⟩
    rw [hx, hy] at h3 ih
    rw [hx] at h1 ⊢
    rw [hy] at h2 ⊢
    clear hx hy
    rw [w64 ((x : Int) * 65536) (by omega) (by omega), w64 ((x : Int) * 65536 + (y : Int)) (by omega) (by omega), w64 ((i : Int) - 1) (by omega) (by omega)]
    rw [show (x : Int) * 65536 + (y : Int) = ((x * 65536 + y : Nat) : Int) from by omega, tdiv_nat, tmod_nat]
    obtain ⟨q, hq⟩ : ∃ q, (x * 65536 + y) / d = q := ⟨_, rfl⟩
    rw [hq] at h3 ih ⊢
    rw [w64 (q : Int) (by omega) (by omega), show ((i : Int)).toNat = i from rfl]
    exact ih

theorem byDigit_is (a d : Nat) (hd : 0 < d) (hd2 : d < 65536) (ha : dlen a ≤ 1000) (k : Nat) (hk : 5000 ≤ k) : Pquoted.spec_byDigit.f k (dg a) (d : Int) = some (dg (a / d), ((a % d : Nat) : Int)) := by
  have := byDigit_from a d hd hd2 ha (dlen a) k (Nat.le_refl _) (by omega)
  rw [Nat.div_eq_of_lt (dlen_lt a), Nat.zero_mod, hi_none] at this
  unfold Pquoted.spec_byDigit.f
  rw [dg_len, if_pos (by omega), if_pos (by rw [show ((dlen a : Nat) : Int).toNat = dlen a from rfl]; omega), w64 _ (by omega) (by omega)]
  exact this

/-- How many bits a number has. -/
def bl (n : Nat) : Nat := if n = 0 then 0 else Nat.log2 n + 1
theorem bl_half (n : Nat) (h : 0 < n) : bl n = bl (n / 2) + 1 := by
  unfold bl
  rw [if_neg (by omega)]
  by_cases h2 : n / 2 = 0
  · rw [if_pos h2]
    have : n = 1 := by omega
    subst this
    rfl
  · rw [if_neg h2, Nat.log2_def, if_pos (by omega)]
theorem bl_shift (n : Nat) : ∀ m, 0 < n / 2 ^ m → bl n = bl (n / 2 ^ m) + m
  | 0, _ => by simp
  | m + 1, h => by
    have e : n / 2 ^ (m + 1) = n / 2 ^ m / 2 := by rw [Nat.pow_succ, Nat.div_div_eq_div_mul]
    rw [e] at h ⊢
    have := bl_shift n m (by omega)
    have := bl_half (n / 2 ^ m) (by omega)
    omega

theorem len_from : ∀ (t : Nat) (n k : Nat), n + t < 1000000 → t + 1 ≤ k → PLen.spec_Len.l0 k (n : Int) (t : Int) = some ((n + bl t : Nat) : Int) := by
  intro t
  induction t using Nat.strongRecOn with
  | ind t ih =>
    intro n k hn hk
    obtain ⟨K, rfl⟩ : ∃ K, k = K + 1 := ⟨k - 1, by omega⟩
    rw [PLen.spec_Len.l0]
    by_cases h0 : t = 0
    · subst h0
      rw [if_neg (by decide)]
      rfl
    · have h1 := bl_half t (by omega)
      have e1 : wrap64 ((n : Int) + 1) = ((n + 1 : Nat) : Int) := by rw [w64 _ (by omega) (by omega)]; omega
      have e2 : wrap64 (Int.tdiv (t : Int) 2) = ((t / 2 : Nat) : Int) := by
        rw [show (2 : Int) = ((2 : Nat) : Int) from rfl, tdiv_nat, w64 _ (by omega) (by omega)]
      rw [if_pos (by omega), e1, e2, ih (t / 2) (by omega) (n + 1) K (by omega) (by omega), h1]
      congr 2
      omega

theorem len_is (a : Nat) (ha : dlen a ≤ 1000) (k : Nat) (hk : 70000 ≤ k) : PLen.spec_Len.f k (dg a) = some ((bl a : Nat) : Int) := by
  unfold PLen.spec_Len.f
  rw [dg_len]
  rcases Nat.eq_zero_or_pos a with h0 | h0
  · subst h0
    rfl
  · have h1 := dlen_pos a h0
    have h2 := dlen_le a h0
    have h3 : 0 < a / 65536 ^ (dlen a - 1) := Nat.div_pos h2 (Nat.pow_pos (by decide))
    have h4 : a / 65536 ^ (dlen a - 1) < 65536 := by
      rw [Nat.div_lt_iff_lt_mul (Nat.pow_pos (by decide)), Nat.mul_comm, ← Nat.pow_succ]
      have := dlen_lt a
      rwa [Nat.succ_eq_add_one, show dlen a - 1 + 1 = dlen a from by omega]
    have e1 : wrap64 ((dlen a : Int) - 1) = ((dlen a - 1 : Nat) : Int) := by rw [w64 _ (by omega) (by omega)]; omega
    have e2 : wrap64 (16 * ((dlen a - 1 : Nat) : Int)) = ((16 * (dlen a - 1) : Nat) : Int) := by rw [w64 _ (by omega) (by omega)]; omega
    rw [if_neg (by omega), e1, if_pos (by omega), if_pos (by omega), e2, rd_dg, Nat.mod_eq_of_lt h4, len_from _ _ _ (by omega) (by omega)]
    have := bl_shift a (16 * (dlen a - 1)) (by rw [← pw]; exact h3)
    rw [← pw] at this
    congr 2
    omega

/-- n places, the first i digits of q, 0 behind them. -/
def lo (q n i : Nat) : List Int := (List.range n).map fun j => if j < i then ((q / 65536 ^ j % 65536 : Nat) : Int) else 0
theorem lo_len (q n i : Nat) : (lo q n i).length = n := by simp [lo]
theorem lo_none (q n : Nat) : lo q n 0 = List.replicate n 0 := by
  apply List.ext_getElem
  · simp [lo]
  · intro j h1 h2
    simp [lo]
theorem lo_rd (q n i : Nat) : rd (lo q n i) (i : Int) = 0 := by
  unfold rd
  rw [show ((i : Int)).toNat = i from rfl]
  rcases Nat.lt_or_ge i n with h | h
  · simp [lo, List.getD, h]
  · rw [List.getD, List.getElem?_eq_none (by rw [lo_len]; exact h)]; rfl
theorem lo_set (q n i : Nat) : (lo q n i).set i ((q / 65536 ^ i % 65536 : Nat) : Int) = lo q n (i + 1) := by
  apply List.ext_getElem
  · simp [lo]
  · intro j h1 h2
    rw [List.getElem_set]
    by_cases hj : i = j
    · subst hj; simp [lo]
    · rw [if_neg hj]
      by_cases h3 : j < i
      · have h4 : j < i + 1 := by omega
        simp [lo, h3, h4]
      · have h4 : ¬ j < i + 1 := by omega
        simp [lo, h3, h4]
theorem lo_set0 (q n i : Nat) : (lo q n i).set i 0 = lo q n i := by
  apply List.ext_getElem
  · simp [lo]
  · intro j h1 h2
    rw [List.getElem_set]
    by_cases hj : i = j
    · subst hj; simp [lo]
    · rw [if_neg hj]

/-- The product by 1. -/
theorem mul1_from (a : Nat) (ha : dlen a ≤ 1000) : ∀ (d i k : Nat), i + d = dlen a → 3 * d + 2005 ≤ k →
    PMul.spec_Mul.l0 k [1] (lo a (dlen a + 1) i) (dg a) (dlen a : Int) (i : Int) = some (dg a)
  | 0, i, k, h, hk => by
    obtain ⟨K, rfl⟩ : ∃ K, k = K + 1 := ⟨k - 1, by omega⟩
    have e : lo a (dlen a + 1) i = ld a (dlen a + 1) := by
      apply List.ext_getElem
      · rw [lo_len, ld_len]
      · intro j h1 h2
        rw [ld_get]
        by_cases hj : j < i
        · simp [lo, hj]
        · rw [high_zero a j (by omega)]
          simp [lo, hj]
    rw [PMul.spec_Mul.l0, if_neg (by omega), e, PMul.spec_trim.f, PMul_trim (dlen a + 1) a K (by omega) (Nat.lt_of_lt_of_le (dlen_lt a) (pow_mono (by omega))) (by omega)]
    rfl
  | d + 1, i, k, h, hk => by
    obtain ⟨K, rfl⟩ : ∃ K, k = K + 3 := ⟨k - 3, by omega⟩
    have ih := mul1_from a ha d (i + 1) K (by omega) (by omega)
    have h2 := digit_lt a i
    have w1 : wrap64 ((i : Int) + 0) = (i : Int) := by rw [w64 _ (by omega) (by omega)]; omega
    have w2 : wrap64 ((i : Int) + (([1] : List Int).length : Int)) = ((i + 1 : Nat) : Int) := by
      rw [show (([1] : List Int).length : Int) = 1 from rfl, w64 _ (by omega) (by omega)]; omega
    have w3 : wrap64 ((i : Int) + 1) = ((i + 1 : Nat) : Int) := by rw [w64 _ (by omega) (by omega)]; omega
    have r1 : rd [1] 0 = 1 := rfl
    have hv : wrap64 (0 + wrap64 (0 + wrap64 (((a / 65536 ^ i % 65536 : Nat) : Int) * 1))) = ((a / 65536 ^ i % 65536 : Nat) : Int) := by
      have hy : wrap64 (((a / 65536 ^ i % 65536 : Nat) : Int)) = ((a / 65536 ^ i % 65536 : Nat) : Int) := w64 _ (by omega) (by omega)
      simp only [Int.mul_one, Int.zero_add, hy]
    have hm : Int.tmod (((a / 65536 ^ i % 65536 : Nat) : Int)) 65536 = ((a / 65536 ^ i % 65536 : Nat) : Int) := by
      rw [show (65536 : Int) = ((65536 : Nat) : Int) from rfl, tmod_nat, Nat.mod_mod]
    have hdv : wrap64 (Int.tdiv (((a / 65536 ^ i % 65536 : Nat) : Int)) 65536) = 0 := by
      rw [show (65536 : Int) = ((65536 : Nat) : Int) from rfl, tdiv_nat, Nat.div_eq_of_lt h2]
      exact w64 0 (by decide) (by decide)
    have w4 : ¬ (wrap64 (0 + 1) < (([1] : List Int).length : Int)) := by
      rw [show wrap64 (0 + 1) = 1 from w64 1 (by decide) (by decide)]
      decide
    rw [PMul.spec_Mul.l0, dg_len, if_pos (by omega), if_pos (by omega), if_pos (by omega), PMul.spec_Mul.l1, if_pos (by decide), if_pos (by decide), if_pos (by decide), w1, if_pos (by omega), lo_len, if_pos (by omega), lo_rd, rd_dg, r1, hv, hm, hdv,
      show ((i : Int)).toNat = i from rfl, lo_set, PMul.spec_Mul.l1, if_neg w4, w2, if_pos (by omega), lo_len, if_pos (by omega), show ((((i + 1 : Nat) : Int))).toNat = i + 1 from rfl, lo_set0, w3]
    exact ih

theorem mul1_is (a : Nat) (ha : dlen a ≤ 1000) (k : Nat) (hk : 6000 ≤ k) : PMul.spec_Mul.f k (dg a) [1] = some (dg a) := by
  have := mul1_from a ha (dlen a) 0 k (by omega) (by omega)
  rw [lo_none] at this
  have w2 : wrap64 ((dlen a : Int) + (([1] : List Int).length : Int)) = ((dlen a + 1 : Nat) : Int) := by
    rw [show (([1] : List Int).length : Int) = 1 from rfl, w64 _ (by omega) (by omega)]; omega
  unfold PMul.spec_Mul.f
  rw [dg_len, w2, if_pos (by omega), show ((((dlen a + 1 : Nat) : Int))).toNat = dlen a + 1 from rfl, if_pos (by omega)]
  exact this

end Dg
end Go.Proofs.YtdpnoaaeplgdjaaGreatDoor
/-
  WHAT THE PRINTED FUNCTIONS OF PACKAGE spec COMPUTE, fourth part: Of: words of 64 bits as digits.
-/
namespace Go.Proofs.YtdpnoaaeplgdjaaGreatDoor
open Go.RowKit Go.Proofs.YtdpnoaaeplgdjaaGreatDoorW.PrintWords Go.Proofs.YtdpnoaaeplgdjaaGreatDoorW.PrintMore
namespace Dg

/-- The number of words of 64 bits. -/
def wv : List Nat → Nat
  | [] => 0
  | w :: ws => w + 18446744073709551616 * wv ws
/-- Words as the program holds them. -/
def zi (ws : List Nat) : List Int := ws.map fun w : Nat => (w : Int)
theorem zi_len (ws : List Nat) : (zi ws).length = ws.length := by simp [zi]

theorem p4 (i : Nat) : 65536 ^ (4 * (i + 1)) = 18446744073709551616 * 65536 ^ (4 * i) := by
  rw [show 4 * (i + 1) = 4 + 4 * i from by omega, Nat.pow_add]

theorem wv_lt : ∀ ws : List Nat, (∀ w ∈ ws, w < 18446744073709551616) → wv ws < 65536 ^ (4 * ws.length)
  | [], _ => by simp [wv]
  | w :: ws, h => by
    have h1 := wv_lt ws fun x hx => h x (List.mem_cons_of_mem _ hx)
    have h2 := h w (List.mem_cons_self ..)
    rw [List.length_cons, p4, wv]
    have := Nat.mul_le_mul_left 18446744073709551616 h1
    rw [Nat.mul_succ] at this
    omega

theorem wv_at : ∀ (ws : List Nat) (i : Nat) (h : i < ws.length), (∀ w ∈ ws, w < 18446744073709551616) → wv ws / 65536 ^ (4 * i) % 18446744073709551616 = ws[i]
  | [], _, h, _ => by simp at h
  | w :: ws, 0, _, h => by
    have h2 := h w (List.mem_cons_self ..)
    simp only [Nat.mul_zero, Nat.pow_zero, Nat.div_one, wv, List.getElem_cons_zero]
    omega
  | w :: ws, i + 1, hi, h => by
    have h2 := h w (List.mem_cons_self ..)
    have := wv_at ws i (by simpa using hi) fun x hx => h x (List.mem_cons_of_mem _ hx)
    rw [p4, ← Nat.div_div_eq_div_mul, wv, show (w + 18446744073709551616 * wv ws) / 18446744073709551616 = wv ws from by omega, this]
    rfl

theorem digit_of (ws : List Nat) (i j : Nat) (h : i < ws.length) (hj : j < 4) (hw : ∀ w ∈ ws, w < 18446744073709551616) : wv ws / 65536 ^ (4 * i + j) % 65536 = ws[i] / 65536 ^ j % 65536 := by
  rw [← wv_at ws i h hw, Nat.pow_add, ← Nat.div_div_eq_div_mul]
  obtain ⟨X, hX⟩ : ∃ X, wv ws / 65536 ^ (4 * i) = X := ⟨_, rfl⟩
  rw [hX]
  match j, hj with
  | 0, _ => simp only [Nat.pow_zero, Nat.div_one]; omega
  | 1, _ => simp only [Nat.pow_one]; omega
  | 2, _ => rw [show 65536 ^ 2 = 4294967296 from rfl]; omega
  | 3, _ => rw [show 65536 ^ 3 = 281474976710656 from rfl]; omega

theorem low16 (x : Nat) (hx : x < 18446744073709551616) : wrap64 (Go.bits .and .u64 (x : Int) 65535) = ((x % 65536 : Nat) : Int) := by
  rw [show (65535 : Int) = ((65535 : Nat) : Int) from rfl, u64_and_nat x 65535 hx (by decide), show (65535 : Nat) = 2 ^ 16 - 1 from rfl, Nat.and_two_pow_sub_one_eq_mod, w64 _ (by omega) (by omega)]

theorem shr_at (w s t : Nat) (hs : 2 ^ (16 * s) = t) (h3 : s ≤ 3) : shr .u64 (w : Int) ((16 * s : Nat) : Int) = ((w / t : Nat) : Int) := by
  unfold shr
  rw [show ((((16 * s : Nat) : Int))).toNat = 16 * s from rfl, show min (16 * s) (IntKind.bits .u64) = 16 * s from by simp [IntKind.bits]; omega, Int.natCast_ediv, ← hs]
  norm_cast

theorem of_word (K : Nat) (acc : List Int) (w : Nat) (x8 : List Int) (x9 x10 : Int) (hacc : acc.length < 1000000) (hw : w < 18446744073709551616) :
    POf64.spec_Of.l1 (K + 5) acc (w : Int) 0 x8 x9 x10 = POf64.spec_Of.l0 K (acc ++ [((w % 65536 : Nat) : Int)] ++ [((w / 65536 % 65536 : Nat) : Int)] ++ [((w / 4294967296 % 65536 : Nat) : Int)] ++ [((w / 281474976710656 % 65536 : Nat) : Int)]) x8 x9 (wrap64 (x10 + 1)) := by
  have v1 : wrap64 ((0 : Int) + 1) = 1 := by rw [w64 _ (by omega) (by omega)]; rfl
  have v2 : wrap64 ((1 : Int) + 1) = 2 := by rw [w64 _ (by omega) (by omega)]; rfl
  have v3 : wrap64 ((2 : Int) + 1) = 3 := by rw [w64 _ (by omega) (by omega)]; rfl
  have v4 : wrap64 ((3 : Int) + 1) = 4 := by rw [w64 _ (by omega) (by omega)]; rfl
  have m0 : wrap64 ((16 : Int) * 0) = ((16 * 0 : Nat) : Int) := by rw [w64 _ (by omega) (by omega)]; rfl
  have m1 : wrap64 ((16 : Int) * 1) = ((16 * 1 : Nat) : Int) := by rw [w64 _ (by omega) (by omega)]; rfl
  have m2 : wrap64 ((16 : Int) * 2) = ((16 * 2 : Nat) : Int) := by rw [w64 _ (by omega) (by omega)]; rfl
  have m3 : wrap64 ((16 : Int) * 3) = ((16 * 3 : Nat) : Int) := by rw [w64 _ (by omega) (by omega)]; rfl
  have s0 := shr_at w 0 1 (by decide) (by decide)
  have s1 := shr_at w 1 65536 (by decide) (by decide)
  have s2 := shr_at w 2 4294967296 (by decide) (by decide)
  have s3 := shr_at w 3 281474976710656 (by decide) (by decide)
  rw [Nat.div_one] at s0
  have g0 := low16 w hw
  have g1 := low16 (w / 65536) (Nat.lt_of_le_of_lt (Nat.div_le_self _ _) hw)
  have g2 := low16 (w / 4294967296) (Nat.lt_of_le_of_lt (Nat.div_le_self _ _) hw)
  have g3 := low16 (w / 281474976710656) (Nat.lt_of_le_of_lt (Nat.div_le_self _ _) hw)
  have l1 : (acc ++ [((w % 65536 : Nat) : Int)]).length < 17592186044416 := by simp only [List.length_append, List.length_cons, List.length_nil]; omega
  have l2 : (acc ++ [((w % 65536 : Nat) : Int)] ++ [((w / 65536 % 65536 : Nat) : Int)]).length < 17592186044416 := by simp only [List.length_append, List.length_cons, List.length_nil]; omega
  have l3 : (acc ++ [((w % 65536 : Nat) : Int)] ++ [((w / 65536 % 65536 : Nat) : Int)] ++ [((w / 4294967296 % 65536 : Nat) : Int)]).length < 17592186044416 := by simp only [List.length_append, List.length_cons, List.length_nil]; omega
  have l0 : acc.length < 17592186044416 := by omega
  have p0 : (0 : Int) ≤ ((16 * 0 : Nat) : Int) := Int.natCast_nonneg _
  have p1 : (0 : Int) ≤ ((16 * 1 : Nat) : Int) := Int.natCast_nonneg _
  have p2 : (0 : Int) ≤ ((16 * 2 : Nat) : Int) := Int.natCast_nonneg _
  have p3 : (0 : Int) ≤ ((16 * 3 : Nat) : Int) := Int.natCast_nonneg _
  have c0 : (0 : Int) < 4 := by decide
  have c1 : (1 : Int) < 4 := by decide
  have c2 : (2 : Int) < 4 := by decide
  have c3 : (3 : Int) < 4 := by decide
  have c4 : ¬ (4 : Int) < 4 := by decide
  rw [POf64.spec_Of.l1, if_pos c0, m0, if_pos p0, if_pos l0, s0, g0, v1]
  rw [POf64.spec_Of.l1, if_pos c1, m1, if_pos p1, if_pos l1, s1, g1, v2]
  rw [POf64.spec_Of.l1, if_pos c2, m2, if_pos p2, if_pos l2, s2, g2, v3]
  rw [POf64.spec_Of.l1, if_pos c3, m3, if_pos p3, if_pos l3, s3, g3, v4]
  rw [POf64.spec_Of.l1, if_neg c4]

/-- The digits of words. -/
theorem of_from (ws : List Nat) (hw : ∀ w ∈ ws, w < 18446744073709551616) (hl : ws.length ≤ 1000) : ∀ (d i k : Nat), i + d = ws.length → 6 * d + 5000 ≤ k →
    POf64.spec_Of.l0 k (ld (wv ws) (4 * i)) (zi ws) ((zi ws).length : Int) (i : Int) = some (dg (wv ws))
  | 0, i, k, h, hk => by
    obtain ⟨K, rfl⟩ : ∃ K, k = K + 1 := ⟨k - 1, by omega⟩
    have hi : i = ws.length := by omega
    subst hi
    rw [POf64.spec_Of.l0, zi_len, if_neg (by omega), POf64.spec_trim.f, POf64_trim _ _ K (by omega) (wv_lt ws hw) (by omega)]
    rfl
  | d + 1, i, k, h, hk => by
    obtain ⟨K, rfl⟩ : ∃ K, k = K + 6 := ⟨k - 6, by omega⟩
    have hi : i < ws.length := by omega
    have ih := of_from ws hw hl d (i + 1) K (by omega) (by omega)
    have hr : rd (zi ws) (i : Int) = ((ws[i] : Nat) : Int) := by simp [rd, zi, hi]
    have w3 : wrap64 ((i : Int) + 1) = ((i + 1 : Nat) : Int) := by rw [w64 _ (by omega) (by omega)]; omega
    rw [POf64.spec_Of.l0, zi_len, if_pos (by omega), if_pos (by omega), if_pos (by omega), hr, of_word _ _ _ _ _ _ (by rw [ld_len]; omega) (hw _ (List.getElem_mem _)), w3]
    have d0 := digit_of ws i 0 hi (by omega) hw
    have d1 := digit_of ws i 1 hi (by omega) hw
    have d2 := digit_of ws i 2 hi (by omega) hw
    have d3 := digit_of ws i 3 hi (by omega) hw
    rw [show 65536 ^ 0 = 1 from rfl, Nat.div_one] at d0
    rw [show 65536 ^ 1 = 65536 from rfl] at d1
    rw [show 65536 ^ 2 = 4294967296 from rfl] at d2
    rw [show 65536 ^ 3 = 281474976710656 from rfl] at d3
    rw [← d0, ← d1, ← d2, ← d3, Nat.add_zero, ← ld_succ, ← ld_succ, ← ld_succ, ← ld_succ, show 4 * i + 1 + 1 + 1 + 1 = 4 * (i + 1) from by omega]
    rw [zi_len] at ih
    exact ih

theorem of_is (ws : List Nat) (hw : ∀ w ∈ ws, w < 18446744073709551616) (hl : ws.length ≤ 1000) (k : Nat) (hk : 20000 ≤ k) : POf64.spec_Of.f k (zi ws) = some (dg (wv ws)) :=
  of_from ws hw hl ws.length 0 k (by omega) (by omega)

end Dg
end Go.Proofs.YtdpnoaaeplgdjaaGreatDoor
/-
  WHAT THE PRINTED FUNCTIONS OF PACKAGE spec COMPUTE, fifth part: Words: digits as words of 64 bits.
-/
namespace Go.Proofs.YtdpnoaaeplgdjaaGreatDoor
open Go.RowKit Go.Proofs.YtdpnoaaeplgdjaaGreatDoorW.PrintWords Go.Proofs.YtdpnoaaeplgdjaaGreatDoorW.PrintMore
namespace Dg

/-- The first n words of x. -/
def wd (x n : Nat) : List Int := (List.range n).map fun j => ((x / 65536 ^ (4 * j) % 18446744073709551616 : Nat) : Int)
theorem wd_len (x n : Nat) : (wd x n).length = n := by simp [wd]
theorem wd_succ (x n : Nat) : wd x (n + 1) = wd x n ++ [((x / 65536 ^ (4 * n) % 18446744073709551616 : Nat) : Int)] := by
  unfold wd
  rw [List.range_succ, List.map_append]
  rfl
theorem wd_rd (x n j : Nat) (h : j < n) : rd (wd x n) (j : Int) = ((x / 65536 ^ (4 * j) % 18446744073709551616 : Nat) : Int) := by
  unfold rd
  rw [show ((j : Int)).toNat = j from rfl]
  simp [wd, List.getD, h]

theorem wd_get (x n j : Nat) (h : j < (wd x n).length) : (wd x n)[j] = ((x / 65536 ^ (4 * j) % 18446744073709551616 : Nat) : Int) := by simp [wd]

/-- One digit more: the words below stay, the last one takes it. -/
theorem word_step (a q r : Nat) (hr : r < 4) :
    (∀ j, j < q → a % 65536 ^ (4 * q + r + 1) / 65536 ^ (4 * j) % 18446744073709551616 = a % 65536 ^ (4 * q + r) / 65536 ^ (4 * j) % 18446744073709551616) ∧
    a % 65536 ^ (4 * q + r) / 65536 ^ (4 * q) < 65536 ^ r ∧
    a % 65536 ^ (4 * q + r + 1) / 65536 ^ (4 * q) % 18446744073709551616 = a % 65536 ^ (4 * q + r) / 65536 ^ (4 * q) + 65536 ^ r * (a / 65536 ^ (4 * q + r) % 65536) := by
  rw [mod_succ]
  have hx := Nat.mod_lt a (show 0 < 65536 ^ (4 * q + r) from Nat.pow_pos (by decide))
  have hd := digit_lt a (4 * q + r)
  obtain ⟨x, hxx⟩ : ∃ x, a % 65536 ^ (4 * q + r) = x := ⟨_, rfl⟩
  obtain ⟨y, hy⟩ : ∃ y, a / 65536 ^ (4 * q + r) % 65536 = y := ⟨_, rfl⟩
  rw [hxx] at hx
  rw [hy] at hd
  rw [hxx, hy]
  clear hxx hy
  have hP : 0 < 65536 ^ (4 * q) := Nat.pow_pos (by decide)
  refine ⟨fun j hj => ?_, ?_, ?_⟩
  · have e : 65536 ^ (4 * q + r) * y = 65536 ^ (4 * j) * (18446744073709551616 * (65536 ^ (4 * q + r - 4 * j - 4) * y)) := by
      rw [← Nat.mul_assoc 18446744073709551616, show (18446744073709551616 : Nat) = 65536 ^ 4 from rfl, ← Nat.pow_add, ← Nat.mul_assoc, ← Nat.pow_add]
      congr 2
      omega
    rw [e, Nat.add_mul_div_left _ _ (Nat.pow_pos (by decide)), Nat.add_mul_mod_self_left]
  · rw [Nat.div_lt_iff_lt_mul hP, Nat.mul_comm, ← Nat.pow_add]
    exact hx
  · have hl : x / 65536 ^ (4 * q) < 65536 ^ r := by
      rw [Nat.div_lt_iff_lt_mul hP, Nat.mul_comm, ← Nat.pow_add]
      exact hx
    rw [Nat.pow_add, Nat.mul_assoc, Nat.add_mul_div_left _ _ hP]
    obtain ⟨u, hu⟩ : ∃ u, x / 65536 ^ (4 * q) = u := ⟨_, rfl⟩
    rw [hu] at hl ⊢
    clear hu hx hP
    apply Nat.mod_eq_of_lt
    match r, hr with
    | 0, _ => rw [Nat.pow_zero] at hl ⊢; omega
    | 1, _ => rw [Nat.pow_one] at hl ⊢; omega
    | 2, _ => rw [show 65536 ^ 2 = 4294967296 from rfl] at hl ⊢; omega
    | 3, _ => rw [show 65536 ^ 3 = 281474976710656 from rfl] at hl ⊢; omega

theorem wd_set (a q r : Nat) (hr : r < 4) :
    (wd (a % 65536 ^ (4 * q + r)) (q + 1)).set q ((a % 65536 ^ (4 * q + r) / 65536 ^ (4 * q) + 65536 ^ r * (a / 65536 ^ (4 * q + r) % 65536) : Nat) : Int) = wd (a % 65536 ^ (4 * q + r + 1)) (q + 1) := by
  obtain ⟨s1, _, s3⟩ := word_step a q r hr
  apply List.ext_getElem
  · rw [List.length_set, wd_len, wd_len]
  · intro j h1 h2
    rw [List.getElem_set]
    have hj : j < q + 1 := by rw [wd_len] at h2; exact h2
    by_cases e : q = j
    · subst e
      rw [if_pos rfl, ← s3, wd_get]
    · rw [if_neg e]
      have := s1 j (by omega)
      rw [wd_get, wd_get, this]

end Dg
end Go.Proofs.YtdpnoaaeplgdjaaGreatDoor
/-
  WHAT THE PRINTED FUNCTIONS OF PACKAGE spec COMPUTE, sixth part: Words and HasWords.
-/
namespace Go.Proofs.YtdpnoaaeplgdjaaGreatDoor
open Go.RowKit Go.Proofs.YtdpnoaaeplgdjaaGreatDoorW.PrintWords Go.Proofs.YtdpnoaaeplgdjaaGreatDoorW.PrintMore
namespace Dg

theorem wrap_u (x : Nat) (h : x < 18446744073709551616) : IntKind.u64.wrap (x : Int) = (x : Int) := by
  rw [IntKind.wrap_u64]; omega

theorem shl_at (d r t : Nat) (ht : 2 ^ (16 * r) = t) (hr : r < 4) (h : d * t < 18446744073709551616) : shl .u64 (d : Int) ((16 * r : Nat) : Int) = ((d * t : Nat) : Int) := by
  unfold shl
  have e : min (16 * r) (IntKind.bits .u64) = 16 * r := by simp [IntKind.bits]; omega
  rw [show ((((16 * r : Nat) : Int))).toNat = 16 * r from rfl, e]
  have e2 : (d : Int) * 2 ^ (16 * r) = ((d * t : Nat) : Int) := by rw [← ht]; push_cast; rfl
  rw [e2, wrap_u _ h]

/-- A digit laid above what a word holds. -/
theorem or_digit (u d r : Nat) (hr : r < 4) (hu : u < 65536 ^ r) (hd : d < 65536) :
    Go.bits .or .u64 (u : Int) (shl .u64 (IntKind.u64.wrap (d : Int)) ((16 * r : Nat) : Int)) = ((u + 65536 ^ r * d : Nat) : Int) := by
  have hb : 65536 ^ r * 65536 ≤ 18446744073709551616 := by
    rw [← Nat.pow_succ, show (18446744073709551616 : Nat) = 65536 ^ 4 from by decide]
    exact pow_mono (by omega)
  have h1 : 65536 ^ r * d + 65536 ^ r ≤ 65536 ^ r * 65536 := by
    rw [← Nat.mul_succ]
    exact Nat.mul_le_mul_left _ hd
  have h2 : d * 65536 ^ r < 18446744073709551616 := by rw [Nat.mul_comm]; omega
  rw [wrap_u d (by omega), shl_at d r (65536 ^ r) (by rw [pw]) hr h2, u64_or_nat u (d * 65536 ^ r) (by omega) h2, Nat.or_comm, pw, Nat.mul_comm d,
    ← Nat.two_pow_add_eq_or_of_lt (by rw [← pw]; exact hu), Nat.add_comm]

theorem words_round (a q r K : Nat) (hr : r < 4) (hi : 4 * q + r < dlen a) (ha : dlen a ≤ 1000) (res : Option (List Int))
    (h : PHasWords.spec_Words.l0 K (wd (a % 65536 ^ (4 * q + r + 1)) (q + 1)) (dg a) (dlen a : Int) ((4 * q + r + 1 : Nat) : Int) = res) :
    PHasWords.spec_Words.l0 (K + 1) (wd (a % 65536 ^ (4 * q + r)) ((4 * q + r + 3) / 4)) (dg a) (dlen a : Int) ((4 * q + r : Nat) : Int) = res := by
  have i1 : ((4 * q + r : Nat) : Int) < (dlen a : Int) := by omega
  have i0 : (0 : Int) ≤ ((4 * q + r : Nat) : Int) := by omega
  have m4 : Int.tmod ((4 * q + r : Nat) : Int) 4 = (r : Int) := by
    rw [show (4 : Int) = ((4 : Nat) : Int) from rfl, tmod_nat]; omega
  have d4 : wrap64 (Int.tdiv ((4 * q + r : Nat) : Int) 4) = (q : Int) := by
    rw [show (4 : Int) = ((4 : Nat) : Int) from rfl, tdiv_nat, w64 _ (by omega) (by omega)]; omega
  have m16 : wrap64 (16 * (r : Int)) = ((16 * r : Nat) : Int) := by rw [w64 _ (by omega) (by omega)]; omega
  have p16 : (0 : Int) ≤ ((16 * r : Nat) : Int) := Int.natCast_nonneg _
  have wi : wrap64 (((4 * q + r : Nat) : Int) + 1) = ((4 * q + r + 1 : Nat) : Int) := by rw [w64 _ (by omega) (by omega)]; omega
  have q0 : (0 : Int) ≤ (q : Int) := by omega
  have q1 : (q : Int) < ((q + 1 : Nat) : Int) := by omega
  have hq1 : q < q + 1 := Nat.lt_succ_self q
  have e0 : r = 0 → (4 * q + r + 3) / 4 = q := by omega
  have e1 : ¬ r = 0 → (4 * q + r + 3) / 4 = q + 1 := by omega
  have r0 : ¬ r = 0 → ¬ (r : Int) = 0 := by omega
  have lq : q < 17592186044416 := by omega
  have r4 : r ≤ 4 := by omega
  obtain ⟨s1, s2, s3⟩ := word_step a q r hr
  have hd := digit_lt a (4 * q + r)
  have hu : a % 65536 ^ (4 * q + r) / 65536 ^ (4 * q) < 18446744073709551616 := by
    refine Nat.lt_of_lt_of_le s2 ?_
    rw [show (18446744073709551616 : Nat) = 65536 ^ 4 from by decide]
    exact pow_mono r4
  have hread : rd (wd (a % 65536 ^ (4 * q + r)) (q + 1)) (q : Int) = ((a % 65536 ^ (4 * q + r) / 65536 ^ (4 * q) : Nat) : Int) := by
    rw [wd_rd _ _ _ hq1, Nat.mod_eq_of_lt hu]
  have ho := or_digit (a % 65536 ^ (4 * q + r) / 65536 ^ (4 * q)) (a / 65536 ^ (4 * q + r) % 65536) r hr s2 hd
  have hset := wd_set a q r hr
  rw [PHasWords.spec_Words.l0, if_pos i1, if_pos i0, dg_len, if_pos i1, m4, d4, m16, rd_dg, wi]
  by_cases h0 : r = 0
  · subst h0
    have e := e0 rfl
    have e2 : wd (a % 65536 ^ (4 * q + 0)) q ++ [0] = wd (a % 65536 ^ (4 * q + 0)) (q + 1) := by
      rw [wd_succ]
      have : a % 65536 ^ (4 * q + 0) / 65536 ^ (4 * q) = 0 := by
        rw [Nat.pow_zero] at s2; exact Nat.lt_one_iff.1 s2
      rw [this]
      rfl
    have l1 : (wd (a % 65536 ^ (4 * q + 0)) q).length < 17592186044416 := by rw [wd_len]; exact lq
    rw [e, if_pos (show ((0 : Nat) : Int) = 0 from rfl), if_pos l1, e2, Option.bind_some, if_pos q0, wd_len, if_pos q1, if_pos p16, hread, ho, show ((q : Int)).toNat = q from rfl, hset]
    exact h
  · rw [e1 h0, if_neg (r0 h0), if_pos q0, wd_len, if_pos q1, if_pos p16, hread, ho, show ((q : Int)).toNat = q from rfl, hset]
    exact h

theorem words_from (a : Nat) (ha : dlen a ≤ 1000) : ∀ (d i k : Nat), i + d = dlen a → d + 10 ≤ k →
    PHasWords.spec_Words.l0 k (wd (a % 65536 ^ i) ((i + 3) / 4)) (dg a) (dlen a : Int) (i : Int) = some (wd a ((dlen a + 3) / 4))
  | 0, i, k, h, hk => by
    obtain ⟨K, rfl⟩ : ∃ K, k = K + 1 := ⟨k - 1, by omega⟩
    have hi : i = dlen a := by omega
    subst hi
    rw [PHasWords.spec_Words.l0, if_neg (by omega), Nat.mod_eq_of_lt (dlen_lt a)]
  | d + 1, i, k, h, hk => by
    obtain ⟨K, rfl⟩ : ∃ K, k = K + 1 := ⟨k - 1, by omega⟩
    have ih := words_from a ha d (i + 1) K (by omega) (by omega)
    obtain ⟨q, r, hr, hqr⟩ : ∃ q r, r < 4 ∧ i = 4 * q + r := ⟨i / 4, i % 4, by omega, by omega⟩
    subst hqr
    refine words_round a q r K hr (by omega) ha _ ?_
    rw [show (4 * q + r + 1 + 3) / 4 = q + 1 from by omega] at ih
    exact ih

/-- The words of a number. -/
def wds (a : Nat) : List Int := wd a ((dlen a + 3) / 4)
theorem words_is (a : Nat) (ha : dlen a ≤ 1000) (k : Nat) (hk : 2000 ≤ k) : PHasWords.spec_Words.f k (dg a) = some (wds a) := by
  have := words_from a ha (dlen a) 0 k (by omega) (by omega)
  unfold PHasWords.spec_Words.f
  rw [dg_len]
  exact this

theorem same_words (x : List Int) (n : Nat) (hn : x.length = n) (hl : n ≤ 1000) : ∀ (d i k : Nat), i + d = n → d + 1 ≤ k → PHasWords.spec_HasWords.l0 k x x (n : Int) (i : Int) = some true
  | 0, i, k, h, hk => by
    obtain ⟨K, rfl⟩ : ∃ K, k = K + 1 := ⟨k - 1, by omega⟩
    rw [PHasWords.spec_HasWords.l0, if_neg (by omega)]
  | d + 1, i, k, h, hk => by
    obtain ⟨K, rfl⟩ : ∃ K, k = K + 1 := ⟨k - 1, by omega⟩
    have ih := same_words x n hn hl d (i + 1) K (by omega) (by omega)
    have wi : wrap64 ((i : Int) + 1) = ((i + 1 : Nat) : Int) := by rw [w64 _ (by omega) (by omega)]; omega
    rw [PHasWords.spec_HasWords.l0, hn, if_pos (by omega), if_pos (by omega), if_pos (by omega), if_pos (by omega), if_pos rfl, wi]
    exact ih

theorem wds_len (a : Nat) : (wds a).length = (dlen a + 3) / 4 := wd_len _ _

/-- The words of a number are found to be its words. -/
theorem hasWords_is (a : Nat) (ha : dlen a ≤ 1000) (k : Nat) (hk : 2000 ≤ k) : PHasWords.spec_HasWords.f k (wds a) (dg a) = some true := by
  unfold PHasWords.spec_HasWords.f
  rw [words_is a ha k hk, Option.bind_some, if_pos rfl, wds_len]
  exact same_words (wds a) ((dlen a + 3) / 4) (wds_len a) (by omega) ((dlen a + 3) / 4) 0 k (by omega) (by omega)

end Dg
end Go.Proofs.YtdpnoaaeplgdjaaGreatDoor
/-
  WHAT THE PRINTED FUNCTIONS OF PACKAGE spec COMPUTE, seventh part: Of64 at 1, same.
-/
namespace Go.Proofs.YtdpnoaaeplgdjaaGreatDoor
open Go.RowKit Go.Proofs.YtdpnoaaeplgdjaaGreatDoorW.PrintWords Go.Proofs.YtdpnoaaeplgdjaaGreatDoorW.PrintMore
namespace Dg

theorem dg_one : dg 1 = [1] := by decide
theorem dlen_one : dlen 1 = 1 := by decide

theorem of64_one (k : Nat) (hk : 20000 ≤ k) : POf64.spec_Of64.f k 1 = some (false, dg 1, dg 1) := by
  have h1 := of_is [1] (by intro w hw; rw [List.mem_singleton.1 hw]; decide) (by decide) k hk
  have e1 : zi [1] = [IntKind.u64.wrap 1] := by rw [show IntKind.u64.wrap 1 = 1 from wrap_u 1 (by decide)]; rfl
  have e2 : wv [1] = 1 := rfl
  rw [e1, e2] at h1
  have h2 := POf64_small 1 (by decide) k (by omega)
  unfold POf64.spec_Of64.f
  rw [if_neg (by decide), h1, Option.bind_some, show (1 : Int) = ((1 : Nat) : Int) from rfl, h2]
  rfl

theorem same_is (p : Bool) (a : Nat) (ha : dlen a ≤ 1000) (k : Nat) (hk : 5000 ≤ k) : Psame.spec_same.f k p (dg a) (dg 1) p (dg a) (dg 1) = some true := by
  have e1 : cmpN a a = 0 := by simp [cmpN]
  have e2 : cmpN 1 1 = 0 := by decide
  unfold Psame.spec_same.f
  rw [if_pos (by simp), cmp_is a a ha k hk, Option.bind_some, e1, if_pos rfl, cmp_is 1 1 (by decide) k hk, Option.bind_some, e2]
  rfl

end Dg
end Go.Proofs.YtdpnoaaeplgdjaaGreatDoor
