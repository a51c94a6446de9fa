/-
  PLAIN LAWS for the spec's side: bits of quotients, one round of Shl in digits, what the law wants.
-/
import Derived.Test.YtdpnoaaeplgdjaaGreatDoorDgAll
import Derived.Test.YtdpnoaaeplgdjaaGreatDoorWoKN
namespace Go.Proofs.YtdpnoaaeplgdjaaGreatDoor
namespace Dg

theorem bl_lt (n : Nat) : n < 2 ^ bl n := by
  unfold bl
  split
  · rename_i h; subst h; decide
  · exact Nat.lt_log2_self
theorem bl_le (n : Nat) (h : 0 < n) : 2 ^ (bl n - 1) ≤ n := by
  unfold bl
  rw [if_neg (by omega), Nat.add_sub_cancel]
  exact Nat.log2_self_le (by omega)
theorem bl_pos (n : Nat) (h : 0 < n) : 0 < bl n := by unfold bl; rw [if_neg (by omega)]; omega
theorem bl_dlen (n : Nat) : bl n ≤ 16 * dlen n := by
  unfold bl dlen
  split
  · omega
  · omega
theorem dlen_pow (n : Nat) : dlen (2 ^ n) ≤ n / 16 + 1 := by
  rw [dlen_le_iff, pw]
  exact Nat.pow_lt_pow_right (by omega) (by omega)

/-- The long division as it begins. -/
theorem div_start (a b : Nat) (hb : 0 < b) : a < b * 2 ^ (((bl a : Nat) : Int) - ((bl b : Nat) : Int) + 1).toNat := by
  have h1 := bl_lt a
  have h2 := bl_le b hb
  have h3 := bl_pos b hb
  refine Nat.lt_of_lt_of_le h1 (Nat.le_trans ?_ (Nat.mul_le_mul_right _ h2))
  rw [← Nat.pow_add]
  exact Nat.pow_le_pow_right (by omega) (by omega)
theorem div_small (a b i : Nat) (h : (i : Int) ≤ ((bl a : Nat) : Int) - ((bl b : Nat) : Int)) : b * 2 ^ i < 65536 ^ dlen a := by
  have h1 := bl_lt b
  have h2 := bl_dlen a
  rw [pw]
  refine Nat.lt_of_lt_of_le (Nat.mul_lt_mul_of_pos_right h1 (Nat.two_pow_pos i)) ?_
  rw [← Nat.pow_add]
  exact Nat.pow_le_pow_right (by omega) (by omega)
theorem div_yes (a b x y i : Nat) (h1 : y * b + x = a) (h2 : x < b * 2 ^ (i + 1)) (h3 : b * 2 ^ i ≤ x) : (y + 2 ^ i) * b + (x - b * 2 ^ i) = a ∧ x - b * 2 ^ i < b * 2 ^ i := by
  rw [Nat.pow_succ, ← Nat.mul_assoc] at h2
  rw [Nat.add_mul, Nat.mul_comm (2 ^ i) b]
  generalize b * 2 ^ i = d at *
  omega
theorem div_end (a b x y : Nat) (h1 : y * b + x = a) (h2 : x < b) : y = a / b ∧ x = a % b := by
  have hb : 0 < b := by omega
  subst h1
  constructor
  · rw [Nat.mul_comm, Nat.mul_add_div hb, Nat.div_eq_of_lt h2, Nat.add_zero]
  · rw [Nat.mul_comm, Nat.mul_add_mod, Nat.mod_eq_of_lt h2]

/-- The digits of Shl: behind i rounds. -/
theorem shl_step (a i s t q n : Nat) (hst : s * t = 65536) (hn : q + i + 1 < n) :
    ((ld (a % 65536 ^ i * s * 65536 ^ q) n).set (q + i) (((a % 65536 ^ i * s * 65536 ^ q / 65536 ^ (q + i) % 65536 : Nat) : Int) + ((a / 65536 ^ i % 65536 * s % 65536 : Nat) : Int))).set (q + i + 1) ((a / 65536 ^ i % 65536 * s / 65536 : Nat) : Int) = ld (a % 65536 ^ (i + 1) * s * 65536 ^ q) n := by
  have hs0 : 0 < s := Nat.pos_of_ne_zero fun h => by subst h; omega
  have hp : 0 < 65536 ^ i := Nat.pow_pos (by omega)
  have h1 : a % 65536 ^ i < 65536 ^ i := Nat.mod_lt _ hp
  have hy : a % 65536 ^ i * s * 65536 ^ q < 65536 ^ (q + i) * s := by
    have h2 := Nat.mul_lt_mul_of_pos_right h1 (Nat.mul_pos hs0 (show 0 < 65536 ^ q from Nat.pow_pos (by omega)))
    rw [Nat.pow_add]
    calc a % 65536 ^ i * s * 65536 ^ q = a % 65536 ^ i * (s * 65536 ^ q) := Nat.mul_assoc _ _ _
      _ < 65536 ^ i * (s * 65536 ^ q) := h2
      _ = 65536 ^ q * 65536 ^ i * s := by ac_rfl
  rw [shl_round _ _ s t (q + i) n hst (digit_lt a i) hy hn, mod_succ, Nat.pow_add]
  congr 1
  rw [Nat.add_mul, Nat.add_mul]
  congr 1
  ac_rfl
theorem shl_end (a s q n : Nat) (h : dlen a = n) : a % 65536 ^ n * s * 65536 ^ q = a * s * 65536 ^ q := by
  rw [Nat.mod_eq_of_lt (by rw [← h]; exact dlen_lt a)]
theorem pow_split (q r : Nat) : 2 ^ (16 * q + r) = 2 ^ r * 65536 ^ q := by rw [pw, Nat.pow_add, Nat.mul_comm]

/-- The words of a number, as the code tells them. -/
theorem zi_wds (a : Nat) : ∃ ws : List Nat, zi ws = wds a ∧ (∀ x ∈ ws, x < 18446744073709551616) ∧ wv ws = a ∧ ws.length = (dlen a + 3) / 4 := by
  have key : ∀ n, wv ((List.range n).map fun j => a / 65536 ^ (4 * j) % 18446744073709551616) = a % 65536 ^ (4 * n) := by
    intro n
    induction n generalizing a with
    | zero => simp [wv, Nat.mod_one]
    | succ n ih =>
      rw [List.range_succ_eq_map, List.map_cons, List.map_map, wv]
      have h1 : (List.range n).map ((fun j => a / 65536 ^ (4 * j) % 18446744073709551616) ∘ Nat.succ) = (List.range n).map fun j => (a / 18446744073709551616) / 65536 ^ (4 * j) % 18446744073709551616 := by
        apply List.map_congr_left
        intro j _
        show a / 65536 ^ (4 * (j + 1)) % _ = _
        rw [p4, Nat.div_div_eq_div_mul]
      rw [h1, ih, Nat.mul_zero, Nat.pow_zero, Nat.div_one, p4, Nat.mod_mul]
  refine ⟨(List.range ((dlen a + 3) / 4)).map fun j => a / 65536 ^ (4 * j) % 18446744073709551616, ?_, ?_, ?_, by simp⟩
  · simp [zi, wds, wd]
  · intro x hx
    obtain ⟨j, _, rfl⟩ := List.mem_map.1 hx
    exact Nat.mod_lt _ (by decide)
  · rw [key, Nat.mod_eq_of_lt]
    exact (dlen_le_iff _ _).1 (by omega)

/-- A sum of integers, each told by its sign and its amount. -/
def pn (p q : Bool) (a b : Nat) : Bool × Nat := if p = q then (p && decide (0 < a + b), a + b) else if b ≤ a then (p && decide (0 < a - b), a - b) else (q && decide (0 < b - a), b - a)

/-- What the law wants, with no number of bits. -/
theorem want_all (s : Bool) (m : Nat) (hs : s = true → 0 < m) : pn (!s && decide (0 < m)) true m 1 = Wa.out s m 0 := by
  unfold pn Wa.out
  rw [if_pos rfl]
  cases s with
  | true =>
    have h := hs rfl
    simp only [Bool.not_true, Bool.false_and, Bool.false_eq_true, if_false, if_true]
    rw [if_pos (by omega)]
  | false =>
    rcases Nat.eq_zero_or_pos m with h0 | h0
    · subst h0; rfl
    · simp [h0]
/-- What is floored by a power of 2. -/
theorem want_low (s : Bool) (m p : Nat) (hp : 0 < p) :
    (if ((Wa.out s m 0).1 && decide (0 < (Wa.out s m 0).2 % 2 ^ p)) = true then pn true false ((Wa.out s m 0).2 % 2 ^ p) (2 ^ p) else (false, (Wa.out s m 0).2 % 2 ^ p)) = Wa.out s m p := by
  have hM : 0 < 2 ^ p := Nat.two_pow_pos p
  have e0 : Wa.out s m 0 = if s then (false, m - 1) else (true, m + 1) := if_pos rfl
  have ep : Wa.out s m p = (false, if s then (m - 1) % 2 ^ p else 2 ^ p - 1 - m % 2 ^ p) := if_neg (by omega)
  rw [e0, ep]
  cases s with
  | true => rfl
  | false =>
    have h := Wa.floor_not m (2 ^ p) hM
    have h2 := Nat.mod_lt (m + 1) hM
    show (if (true && decide (0 < (m + 1) % 2 ^ p)) = true then pn true false ((m + 1) % 2 ^ p) (2 ^ p) else (false, (m + 1) % 2 ^ p)) = (false, 2 ^ p - 1 - m % 2 ^ p)
    rw [Bool.true_and]
    by_cases c : 0 < (m + 1) % 2 ^ p
    · rw [if_pos c] at h
      rw [if_pos (decide_eq_true c)]
      unfold pn
      rw [if_neg (by decide), if_neg (by omega), ← h]
      rfl
    · rw [if_neg c] at h
      rw [if_neg (by rw [decide_eq_true_eq]; exact c), ← h]
      congr 1
      omega
end Dg
end Go.Proofs.YtdpnoaaeplgdjaaGreatDoor
