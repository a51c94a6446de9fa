/-
  WORDS OF NATURAL NUMBERS TO THE BASE 2^64, in plain Lean, and words as a row of memory holds them.
-/
import Derived.OwnWalk
import Derived.Below
import Derived.Test.YtdpnoaaeplgdjaaGreatDoorBaseRg
import Derived.Laws.IdiomCopy
import Derived.Laws.MakeOwn
import Derived.Deep.LoopGhost
import Derived.BigQuiet
namespace Go.Proofs.YtdpnoaaeplgdjaaGreatDoor
namespace Wa

/-- Word j of x. -/
def wo (x j : Nat) : Nat := x / 18446744073709551616 ^ j % 18446744073709551616

theorem wo_lt (x j : Nat) : wo x j < 18446744073709551616 := Nat.mod_lt _ (by decide)
theorem pos (j : Nat) : 0 < 18446744073709551616 ^ j := Nat.pow_pos (by decide)
theorem p2 (j : Nat) : 18446744073709551616 ^ j = 2 ^ (64 * j) := by rw [Nat.pow_mul]
theorem low_succ (x j : Nat) : x % 18446744073709551616 ^ (j + 1) = x % 18446744073709551616 ^ j + 18446744073709551616 ^ j * wo x j := by
  rw [Nat.pow_succ, Nat.mod_mul]; rfl
theorem wo_high (x n j : Nat) (h : x < 18446744073709551616 ^ n) (hj : n ≤ j) : wo x j = 0 := by
  unfold wo
  rw [Nat.div_eq_of_lt (Nat.lt_of_lt_of_le h (Nat.pow_le_pow_right (by decide) hj))]
theorem wo_zero (j : Nat) : wo 0 j = 0 := by unfold wo; rw [Nat.zero_div]
theorem wo_at0 (x : Nat) : wo x 0 = x % 18446744073709551616 := by unfold wo; rw [Nat.pow_zero, Nat.div_one]

/-- Carry of x + 1 into word j. -/
def ca (x j : Nat) : Prop := x % 18446744073709551616 ^ j + 1 = 18446744073709551616 ^ j
theorem ca_zero (x : Nat) : ca x 0 := by unfold ca; rw [Nat.pow_zero, Nat.mod_one]
theorem ca_succ (x j : Nat) : ca x (j + 1) ↔ ca x j ∧ wo x j + 1 = 18446744073709551616 := by
  unfold ca
  rw [low_succ, Nat.pow_succ]
  have hp := pos j
  have h1 := Nat.mod_lt x hp
  have h2 := wo_lt x j
  obtain ⟨P, hP⟩ : ∃ P, 18446744073709551616 ^ j = P := ⟨_, rfl⟩
  obtain ⟨r, hr⟩ : ∃ r, x % P = r := ⟨_, rfl⟩
  obtain ⟨q, hq⟩ : ∃ q, wo x j = q := ⟨_, rfl⟩
  rw [hP] at h1 hp ⊢
  rw [hr] at h1 ⊢
  rw [hq] at h2 ⊢
  clear hP hr hq
  constructor
  · intro h
    have h3 : P * q ≤ P * 18446744073709551615 := Nat.mul_le_mul_left P (by omega)
    have hq : ¬ q < 18446744073709551615 := by
      intro h4
      have h5 : P * q ≤ P * 18446744073709551614 := Nat.mul_le_mul_left P (by omega)
      omega
    have : q = 18446744073709551615 := by omega
    subst this
    exact ⟨by omega, rfl⟩
  · rintro ⟨h, h4⟩
    have : q = 18446744073709551615 := by omega
    subst this
    omega
theorem div_add1 (x j : Nat) : (x + 1) / 18446744073709551616 ^ j = if x % 18446744073709551616 ^ j + 1 = 18446744073709551616 ^ j then x / 18446744073709551616 ^ j + 1 else x / 18446744073709551616 ^ j := by
  have hp := pos j
  obtain ⟨P, hP⟩ : ∃ P, 18446744073709551616 ^ j = P := ⟨_, rfl⟩
  rw [hP] at hp ⊢
  have h1 := Nat.mod_lt x hp
  have h2 := Nat.div_add_mod x P
  obtain ⟨r, hr⟩ : ∃ r, x % P = r := ⟨_, rfl⟩
  obtain ⟨q, hq⟩ : ∃ q, x / P = q := ⟨_, rfl⟩
  rw [hr] at h1 h2
  rw [hq] at h2
  rw [hr, hq, ← h2]
  split
  · rename_i h
    rw [Nat.add_assoc, h, Nat.mul_add_div hp, Nat.div_self hp]
  · rw [Nat.add_assoc, Nat.mul_add_div hp, Nat.div_eq_of_lt (by omega)]; rfl
theorem add1_ca (x j : Nat) (h : ca x j) : wo (x + 1) j = (wo x j + 1) % 18446744073709551616 := by
  unfold ca at h; unfold wo; rw [div_add1, if_pos h]; omega
theorem add1_no (x j : Nat) (h : ¬ ca x j) : wo (x + 1) j = wo x j := by
  unfold ca at h; unfold wo; rw [div_add1, if_neg h]
theorem ca_no (x j i : Nat) (h : ¬ ca x j) (hij : j ≤ i) : ¬ ca x i := by
  induction hij with
  | refl => exact h
  | step _ ih => exact fun h1 => ih ((ca_succ _ _).1 h1).1

/-- Borrow of x - 1 out of word j. -/
def bo (x j : Nat) : Prop := x % 18446744073709551616 ^ j = 0
theorem bo_zero (x : Nat) : bo x 0 := by unfold bo; rw [Nat.pow_zero, Nat.mod_one]
theorem bo_succ (x j : Nat) : bo x (j + 1) ↔ bo x j ∧ wo x j = 0 := by
  unfold bo
  rw [low_succ]
  have hp := pos j
  constructor
  · intro h
    have h1 : x % 18446744073709551616 ^ j = 0 := Nat.eq_zero_of_add_eq_zero_right h
    have h2 : 18446744073709551616 ^ j * wo x j = 0 := Nat.eq_zero_of_add_eq_zero_left h
    exact ⟨h1, (Nat.mul_eq_zero.1 h2).resolve_left (by omega)⟩
  · rintro ⟨h1, h2⟩
    rw [h1, h2, Nat.mul_zero]
theorem bo_no (x j i : Nat) (h : ¬ bo x j) (hij : j ≤ i) : ¬ bo x i := by
  induction hij with
  | refl => exact h
  | step _ ih => exact fun h1 => ih ((bo_succ _ _).1 h1).1
theorem sub1_bo (x j : Nat) (hx : 0 < x) (h : bo x j) : wo (x - 1) j = (wo x j + 18446744073709551615) % 18446744073709551616 := by
  obtain ⟨y, rfl⟩ : ∃ y, x = y + 1 := ⟨x - 1, by omega⟩
  rw [Nat.add_sub_cancel]
  have hc : ca y j := by
    unfold ca bo at *
    have hp := pos j
    have h1 := Nat.mod_lt y hp
    rw [Nat.add_mod] at h
    rcases Nat.lt_or_ge 1 (18446744073709551616 ^ j) with h2 | h2
    · rw [Nat.mod_eq_of_lt h2] at h
      rcases Nat.lt_or_ge (y % 18446744073709551616 ^ j + 1) (18446744073709551616 ^ j) with h3 | h3
      · rw [Nat.mod_eq_of_lt h3] at h; omega
      · omega
    · omega
  rw [add1_ca y j hc]
  have := wo_lt y j
  omega
theorem sub1_no (x j : Nat) (hx : 0 < x) (h : ¬ bo x j) : wo (x - 1) j = wo x j := by
  obtain ⟨y, rfl⟩ : ∃ y, x = y + 1 := ⟨x - 1, by omega⟩
  rw [Nat.add_sub_cancel]
  refine (add1_no y j fun hc => h ?_).symm
  unfold ca bo at *
  rw [Nat.add_mod]
  have hp := pos j
  rcases Nat.lt_or_ge 1 (18446744073709551616 ^ j) with h2 | h2
  · rw [Nat.mod_eq_of_lt h2, hc, Nat.mod_self]
  · have : 18446744073709551616 ^ j = 1 := by omega
    rw [this, Nat.mod_one]

/-- Words, bit by bit. -/
theorem wo_bit (x j i : Nat) : (wo x j).testBit i = (decide (i < 64) && x.testBit (64 * j + i)) := by
  unfold wo
  rw [p2, show (18446744073709551616 : Nat) = 2 ^ 64 from rfl, Nat.testBit_mod_two_pow, ← Nat.shiftRight_eq_div_pow, Nat.testBit_shiftRight]
theorem and_word (x p j : Nat) : wo (x % 2 ^ p) j = wo x j &&& wo (2 ^ p - 1) j := by
  apply Nat.eq_of_testBit_eq
  intro i
  rw [Nat.testBit_and, wo_bit, wo_bit, wo_bit, Nat.testBit_mod_two_pow, Nat.testBit_two_pow_sub_one]
  cases decide (i < 64) <;> cases x.testBit (64 * j + i) <;> simp
theorem not_word (x p j : Nat) : wo (2 ^ p - 1 - x % 2 ^ p) j = wo (2 ^ p - 1) j &&& (18446744073709551615 - wo x j) := by
  apply Nat.eq_of_testBit_eq
  intro i
  have h1 : x % 2 ^ p < 2 ^ p := Nat.mod_lt _ (Nat.two_pow_pos p)
  have h2 : wo x j < 2 ^ 64 := wo_lt x j
  rw [show 2 ^ p - 1 - x % 2 ^ p = 2 ^ p - (x % 2 ^ p + 1) from by omega, show 18446744073709551615 - wo x j = 2 ^ 64 - (wo x j + 1) from by omega]
  rw [Nat.testBit_and, wo_bit, wo_bit, Nat.testBit_two_pow_sub_succ h1, Nat.testBit_two_pow_sub_succ h2, wo_bit, Nat.testBit_mod_two_pow, Nat.testBit_two_pow_sub_one]
  cases decide (i < 64) <;> cases x.testBit (64 * j + i) <;> simp
/-- Words of a power of 2. -/
theorem pow_word (q r j : Nat) (hr : r < 64) : wo (2 ^ (64 * q + r)) j = if j = q then 2 ^ r else 0 := by
  apply Nat.eq_of_testBit_eq
  intro i
  rw [wo_bit, Nat.testBit_two_pow]
  split
  · rename_i h
    subst h
    rw [Nat.testBit_two_pow]
    by_cases h1 : r = i
    · subst h1; simp [hr]
    · have : ¬ 64 * j + r = 64 * j + i := by omega
      simp [h1]
  · rename_i h
    rw [Nat.zero_testBit]
    by_cases h1 : i < 64
    · have : ¬ 64 * q + r = 64 * j + i := by omega
      simp [this]
    · simp [h1]
/-- A number by its words. -/
theorem eq_of_words (x y n : Nat) (hx : x < 18446744073709551616 ^ n) (hy : y < 18446744073709551616 ^ n) (h : ∀ j, j < n → wo x j = wo y j) : x = y := by
  have key : ∀ k, k ≤ n → x % 18446744073709551616 ^ k = y % 18446744073709551616 ^ k := by
    intro k
    induction k with
    | zero => intro _; rw [Nat.pow_zero, Nat.mod_one, Nat.mod_one]
    | succ k ih => intro hk; rw [low_succ, low_succ, ih (by omega), h k (by omega)]
  have := key n (Nat.le_refl _)
  rwa [Nat.mod_eq_of_lt hx, Nat.mod_eq_of_lt hy] at this
/-- How many words a number has. -/
def nw (x : Nat) : Nat := if x = 0 then 0 else Nat.log2 x / 64 + 1
theorem nw_zero : nw 0 = 0 := rfl
theorem nw_pos (x : Nat) (h : 0 < x) : 0 < nw x := by unfold nw; rw [if_neg (by omega)]; omega
theorem nw_lt (x : Nat) : x < 18446744073709551616 ^ nw x := by
  unfold nw
  split
  · rename_i h; subst h; decide
  · rw [p2]
    exact Nat.lt_of_lt_of_le Nat.lt_log2_self (Nat.pow_le_pow_right (by omega) (by omega))
theorem nw_le (x : Nat) (h : 0 < x) : 18446744073709551616 ^ (nw x - 1) ≤ x := by
  unfold nw
  rw [if_neg (by omega), p2]
  exact Nat.le_trans (Nat.pow_le_pow_right (by omega) (by omega)) (Nat.log2_self_le (by omega))
theorem nw_le_iff (x n : Nat) : nw x ≤ n ↔ x < 18446744073709551616 ^ n := by
  constructor
  · intro h; exact Nat.lt_of_lt_of_le (nw_lt x) (Nat.pow_le_pow_right (by decide) h)
  · intro h
    rcases Nat.eq_zero_or_pos x with h0 | h0
    · subst h0; exact Nat.zero_le _
    · have h1 := nw_le x h0
      rcases Nat.lt_or_ge n (nw x) with h2 | h2
      · have : 18446744073709551616 ^ n ≤ 18446744073709551616 ^ (nw x - 1) := Nat.pow_le_pow_right (by decide) (by omega)
        omega
      · exact h2
theorem nw_mono {x y : Nat} (h : x ≤ y) : nw x ≤ nw y := (nw_le_iff _ _).2 (Nat.lt_of_le_of_lt h (nw_lt y))
theorem top_ne (x : Nat) (h : 0 < x) : wo x (nw x - 1) ≠ 0 := by
  intro h0
  have h1 := nw_lt x
  have h2 := nw_le x h
  have h3 := nw_pos x h
  have h4 := low_succ x (nw x - 1)
  rw [show nw x - 1 + 1 = nw x from by omega, Nat.mod_eq_of_lt h1, h0, Nat.mul_zero] at h4
  have := Nat.mod_lt x (pos (nw x - 1))
  omega
theorem top_zero (x n : Nat) (h : x < 18446744073709551616 ^ (n + 1)) (h0 : wo x n = 0) : x < 18446744073709551616 ^ n := by
  have h4 := low_succ x n
  rw [Nat.mod_eq_of_lt h, h0, Nat.mul_zero] at h4
  have := Nat.mod_lt x (pos n)
  omega
theorem nw_stop (x n : Nat) (h : x < 18446744073709551616 ^ (n + 1)) (h0 : wo x n ≠ 0) : nw x = n + 1 := by
  have h1 := (nw_le_iff x (n + 1)).2 h
  have h2 : ¬ nw x ≤ n := fun h3 => h0 (wo_high x n n ((nw_le_iff x n).1 h3) (Nat.le_refl _))
  omega
end Wa
end Go.Proofs.YtdpnoaaeplgdjaaGreatDoor
namespace Go.Proofs.YtdpnoaaeplgdjaaGreatDoor
open Go.RowKit
namespace Wa

/-- The first n words of x, as cells. -/
def wl (x n : Nat) : List Value := (List.range n).map fun j => .int .u64 ((wo x j : Nat) : Int)
theorem wl_len (x n : Nat) : (wl x n).length = n := by simp [wl]
theorem wl_at (x n j : Nat) (h : j < n) : (wl x n)[j]? = some (.int .u64 ((wo x j : Nat) : Int)) := by simp [wl, h]
theorem wl_take (x n m : Nat) (h : m ≤ n) : (wl x n).take m = wl x m := by
  unfold wl; rw [← List.map_take, List.take_range, Nat.min_eq_left h]
theorem wl_ext (x n : Nat) (l : List Value) (hl : l.length = n) (h : ∀ j, j < n → l[j]? = some (.int .u64 ((wo x j : Nat) : Int))) : l = wl x n := by
  apply List.ext_getElem?
  intro j
  rcases Nat.lt_or_ge j n with h1 | h1
  · rw [h j h1, wl_at _ _ _ h1]
  · rw [List.getElem?_eq_none (by omega), List.getElem?_eq_none (by rw [wl_len]; exact h1)]

/-- v is a slice of n words at the head of a row of its own; the row holds at least these cells. -/
def Sl (w : World) (v : Value) (n : Nat) (xs : List Value) : Prop := w.ownsRow 0 170 1 v n xs
/-- v is the number x as nat keeps it. -/
def Nt (w : World) (v : Value) (x : Nat) : Prop := Sl w v (nw x) (wl x (nw x))

section
variable {w w' : World} {v : Value} {n m x : Nat} {xs : List Value}
theorem Sl.below (h : Sl w v n xs) (hb : Below w.heap.size w w') : Sl w' v n xs :=
  h.kept (row := none) ⟨hb.os, hb.tape, hb.output, hb.size, fun k hk _ => hb.block k hk⟩ (by cases v.ownBlock <;> simp)
theorem Nt.below (h : Nt w v x) (hb : Below w.heap.size w w') : Nt w' v x := Sl.below h hb
theorem Sl.drew (h : Sl w v n xs) : Sl w.drew v n xs := h
theorem Sl.alloc (h : Sl w v n xs) (o : Obj) : Sl (w.alloc o) v n xs := World.ownsRow.alloc h o
theorem Sl.kept {r : Option Nat} (h : Sl w v n xs) (hg : w.grownBy w' r) (hne : v.ownBlock = none ∨ v.ownBlock ≠ r) : Sl w' v n xs := World.ownsRow.kept h hg hne
theorem Nt.nil (w : World) : Nt w (.slice none 0 0) 0 := World.ownsRow_nil w 0 170 1
theorem Sl.len (h : Sl w v n xs) : xs.length = n := by have := h.1; omega
/-- Its form. -/
theorem Sl.form (h : Sl w v n xs) : (v = .slice none 0 0 ∧ n = 0) ∨ ∃ g cap cur, v = .slice (some ⟨g, 0, none⟩) n cap ∧ w.heap[g]? = some (.cells cur 170 (0, 0)) ∧ n ≤ cap ∧ cap ≤ maxLen ∧ cur.size = cap ∧ cur.toList.take n = xs := by
  rcases h.2 with h1 | ⟨g, cap, cur, h1, _, h2, h3, h4, h5, h6⟩
  · exact .inl h1
  · rw [Nat.mul_one] at h5 h6
    exact .inr ⟨g, cap, cur, h1, h2, h3, h4, h5, h6⟩
theorem Sl.form_pos (h : Sl w v n xs) (hn : 0 < n) : ∃ g cap cur, v = .slice (some ⟨g, 0, none⟩) n cap ∧ w.heap[g]? = some (.cells cur 170 (0, 0)) ∧ n ≤ cap ∧ cap ≤ maxLen ∧ cur.size = cap ∧ cur.toList.take n = xs := by
  rcases h.form with ⟨_, h1⟩ | h1
  · omega
  · exact h1
theorem Sl.of {g cap : Nat} {cur : Array Value} (hg : w.heap[g]? = some (.cells cur 170 (0, 0))) (hc : cur.size = cap) (hn : n ≤ cap) (hm : cap ≤ maxLen) : Sl w (.slice (some ⟨g, 0, none⟩) n cap) n (cur.toList.take n) :=
  ⟨by simp; omega, .inr ⟨g, cap, cur, rfl, Nat.zero_le _, hg, hn, hm, by omega, by simp⟩⟩
/-- Fewer of its words. -/
theorem Sl.cut {a : Option Addr} {cap : Nat} (h : Sl w (.slice a n cap) n xs) (hm : m ≤ n) : Sl w (.slice a m cap) m (xs.take m) := by
  rcases h.form with ⟨h1, h2⟩ | ⟨g, c, cur, h1, h2, h3, h4, h5, h6⟩
  · have : m = 0 := by omega
    subst this
    injection h1 with e1 e2 e3
    subst e1 e3
    rw [List.take_zero]
    exact World.ownsRow_nil w 0 170 1
  · injection h1 with e1 e2 e3
    subst e1 e3
    have := Sl.of (n := m) h2 h5 (by omega) h4
    rwa [← h6, List.take_take, Nat.min_eq_left hm]
/-- Other words of its row: what they are is not told. -/
theorem Sl.reach {g cap : Nat} (h : Sl w (.slice (some ⟨g, 0, none⟩) n cap) n xs) (hm : m ≤ cap) : ∃ ys, Sl w (.slice (some ⟨g, 0, none⟩) m cap) m ys := by
  rcases h.form with ⟨h1, _⟩ | ⟨g', c, cur, h1, h2, h3, h4, h5, h6⟩
  · cases h1
  · injection h1 with e1 e2 e3
    injection e1 with e1
    injection e1 with e1
    subst e1 e3
    exact ⟨_, Sl.of (n := m) h2 h5 hm h4⟩
theorem Sl.cap {g cap : Nat} (h : Sl w (.slice (some ⟨g, 0, none⟩) n cap) n xs) : n ≤ cap ∧ cap ≤ maxLen ∧ g < w.heap.size := by
  rcases h.form with ⟨h1, _⟩ | ⟨g', c, cur, h1, h2, h3, h4, h5, h6⟩
  · cases h1
  · injection h1 with e1 e2 e3
    injection e1 with e1
    injection e1 with e1
    subst e1 e3
    exact ⟨h3, h4, (Array.getElem?_eq_some_iff.1 h2).1⟩
theorem Sl.cell {g cap : Nat} (h : Sl w (.slice (some ⟨g, 0, none⟩) n cap) n xs) (j : Nat) (hj : j < n) : w.cell? ⟨g, j, none⟩ = xs[j]? := World.ownsRow.cellAt h j (by omega)
theorem Sl.frozen {g cap : Nat} (h : Sl w (.slice (some ⟨g, 0, none⟩) n cap) n xs) (j : Nat) : w.frozen? ⟨g, j, none⟩ = false := World.ownsRow.frozenAt h j
theorem Sl.set {g cap : Nat} (h : Sl w (.slice (some ⟨g, 0, none⟩) n cap) n xs) (j : Nat) (u : Value) : Sl (w.setCell ⟨g, j, none⟩ u) (.slice (some ⟨g, 0, none⟩) n cap) n (xs.set j u) ∧ w.grownBy (w.setCell ⟨g, j, none⟩ u) (some g) := World.ownsRow.stored h j u
theorem Nt.norm {a : Option Addr} {cap : Nat} (h : Sl w (.slice a n cap) n (wl x n)) (hx : x < 18446744073709551616 ^ n) : Nt w (.slice a (nw x) cap) x := by
  have h1 := (nw_le_iff x n).2 hx
  have := h.cut h1
  rwa [wl_take _ _ _ h1] at this
end
end Wa
end Go.Proofs.YtdpnoaaeplgdjaaGreatDoor
namespace Go.Proofs.YtdpnoaaeplgdjaaGreatDoor
namespace Wa
/-- The turned bits of a number with a sign, as sign and magnitude. -/
def out (s : Bool) (a p : Nat) : Bool × Nat :=
  if p = 0 then (if s then (false, a - 1) else (true, a + 1)) else (false, if s then (a - 1) % 2 ^ p else 2 ^ p - 1 - a % 2 ^ p)
theorem floor_not (a M : Nat) (hM : 0 < M) : (if 0 < (a + 1) % M then M - (a + 1) % M else 0) = M - 1 - a % M := by
  have h1 := Nat.mod_lt a hM
  have h2 : (a + 1) % M = if a % M + 1 = M then 0 else a % M + 1 := by
    rw [Nat.add_mod]
    rcases Nat.lt_or_ge 1 M with h | h
    · rw [Nat.mod_eq_of_lt h]
      split
      · rename_i h3; rw [h3, Nat.mod_self]
      · rw [Nat.mod_eq_of_lt (by omega)]
    · have : M = 1 := by omega
      subst this
      simp [Nat.mod_one]
  rw [h2]
  split
  · rename_i h3; rw [if_neg (by omega)]; omega
  · rw [if_pos (by omega)]; omega
end Wa
end Go.Proofs.YtdpnoaaeplgdjaaGreatDoor
/-
  WORDS, WALKED: make, copy and clear over rows of words, as rules of the walk.
-/
namespace Go.Proofs.YtdpnoaaeplgdjaaGreatDoor
open Go.RowKit
namespace Wa

theorem und158 : Tryz.prog.underlying 158 = some (.slice 170) := by kernel_rfl
theorem und159 : Tryz.prog.underlying 159 = some (.slice 170) := by kernel_rfl
theorem info170 : (Tryz.prog.info? 170).map (fun i => (i.zero, i.size, i.bytes)) = some (some (.int .u64 0), 1, 8) := by kernel_rfl
theorem size170 : (Tryz.prog.info? 170).map (·.size) = some 1 := by kernel_rfl

section
variable {w w' : World} {ops : Array Oper} {rest : List Oper} {o : Oper} {a : Act} {Q : Exit → Act → World → Prop}

theorem gate_make {t : TypeId} {x y : Operand} (_ho : o.op = .makeSlice t x y) (h : wpList Tryz.prog ops Q (o :: rest) a w) : wpList Tryz.prog ops Q (o :: rest) a w := h
theorem gate_call {b : Builtin} {args : Array Operand} {tys : Array TypeId} (_ho : o.op = .call { callee := .builtin b, args := args, argTypes := tys }) (h : wpList Tryz.prog ops Q (o :: rest) a w) : wpList Tryz.prog ops Q (o :: rest) a w := h

/-- 'make(nat, n, c)': a new row. -/
theorem wpList_make_words (hg : o.guard = none) (l c : Operand) (hop : o.op = .makeSlice 159 l c) (n m : Nat) (N M : Int) (hl : a.eval l = .int .i64 N) (hc : a.eval c = .int .i64 M) (hN : N = (n : Int)) (hM : M = (m : Int)) (hnm : n ≤ m) (hm : m ≤ 1000000)
    (hK : ∀ w' ys, Sl w' (.slice (some ⟨w.heap.size, 0, none⟩) n m) n ys → Below w.heap.size w w' → w.heap.size < w'.heap.size → wpList Tryz.prog ops Q rest (a.put o.dst (.slice (some ⟨w.heap.size, 0, none⟩) n m)) w') : wpList Tryz.prog ops Q (o :: rest) a w := by
  obtain ⟨i, hi, hz, hs, hb⟩ := info_parts info170
  subst hN
  subst hM
  have hr := run_make (P := Tryz.prog) w 159 170 i _ und159 hi hz .i64 .i64 n m (by omega) (by omega) (by rw [hb]; omega) (by omega)
  refine wpList_plain hg fun K hK' => ?_
  unfold Oper.wp
  simp [execOp, hop, hl, hc, hr, Result.andThen]
  refine hK' _ _ (hK _ _ (Sl.of (cur := madeCells #[.int .u64 0] (m * i.size)) (heap_alloc_new w _) (by rw [size_madeCells, hs]; omega) hnm (by unfold maxLen; omega)) ((Below.refl _ _).alloc (Nat.le_refl _) _) (by simp))

theorem below_setCells {W : World} {B g : Nat} (h : Below B W w) (hB : B ≤ g) : ∀ (vs : List Value) (off : Nat), Below B W (w.setCells g off vs) := by
  intro vs
  induction vs generalizing w with
  | nil => intro off; exact h
  | cons u vs ih => intro off; exact ih (h.setCell hB u) (off + 1)
theorem grown_setCells (g : Nat) : ∀ (vs : List Value) (off : Nat) (w1 : World), w.grownBy w1 (some g) → w.grownBy (w1.setCells g off vs) (some g) := by
  intro vs
  induction vs with
  | nil => intro off w1 h; exact h
  | cons u vs ih =>
    intro off w1 h
    refine ih (off + 1) _ ⟨h.os, h.tape, h.output, by simpa [World.setCell] using h.size, fun k hk hne => ?_⟩
    rw [Below.heap_setCell w1 ⟨g, off, none⟩ u k (fun e => hne (by rw [e]))]
    exact h.block k hk hne
/-- Some cells of a row set. -/
theorem Sl.sets {g n cap : Nat} : ∀ (vs : List Value) (off : Nat) (w : World) (xs : List Value), Sl w (.slice (some ⟨g, 0, none⟩) n cap) n xs → off + vs.length ≤ n →
    ∃ ys, Sl (w.setCells g off vs) (.slice (some ⟨g, 0, none⟩) n cap) n ys ∧ ∀ j, ys[j]? = if off ≤ j ∧ j < off + vs.length then vs[j - off]? else xs[j]?
  | [], off, w, xs, h, _ => ⟨xs, h, fun j => by rw [if_neg (by simp only [List.length_nil]; omega)]⟩
  | u :: vs, off, w, xs, h, hl => by
    rw [List.length_cons] at hl
    obtain ⟨ys, h1, h2⟩ := Sl.sets vs (off + 1) _ _ (h.set off u).1 (by omega)
    refine ⟨ys, h1, fun j => ?_⟩
    rw [h2 j, List.length_cons]
    by_cases c1 : off + 1 ≤ j ∧ j < off + 1 + vs.length
    · rw [if_pos c1, if_pos (by omega), show j - off = (j - (off + 1)) + 1 from by omega, List.getElem?_cons_succ]
    · rw [if_neg c1, List.getElem?_set]
      by_cases c2 : off = j
      · subst c2
        rw [if_pos rfl, if_pos (by rw [h.len]; omega), if_pos (by omega), Nat.sub_self, List.getElem?_cons_zero]
      · rw [if_neg c2, if_neg (by omega)]

/-- 'copy(dst, src)' over words, both by their cells. -/
theorem wpList_copy_words (hg : o.guard = none) (t : TypeId) (ht : Tryz.prog.underlying t = some (.slice 170)) (s x : Operand) (hop : o.op = .call { callee := .builtin .copy, args := #[s, x], argTypes := #[t, t] }) (g off dl dc : Nat) (ad : Addr) (sl sc : Nat) (cs : List Value)
    (hs : a.eval s = .slice (some ⟨g, off, none⟩) dl dc) (hx : a.eval x = .slice (some ad) sl sc) (hn : cs.length = Nat.min sl dl)
    (hsrc : ∀ j v, cs[j]? = some v → w.cell? (ad.add j) = some v) (hc : ∀ j, j < cs.length → (w.cell? ⟨g, off + j, none⟩).isSome = true) (hf : ∀ j, j < cs.length → w.frozen? ⟨g, off + j, none⟩ = false) (h1 : ∀ v ∈ cs, v.oneCell' = true)
    (hK : wpList Tryz.prog ops Q rest (a.put o.dst (goInt cs.length)) (w.setCells g off cs)) : wpList Tryz.prog ops Q (o :: rest) a w := by
  have hr := run_copy_cells (P := Tryz.prog) w t t o.type 170 g off dl dc ad sl sc cs ht size170 hn hsrc hc hf h1
  refine wpList_plain hg fun K hK' => ?_
  unfold Oper.wp execOp
  simp only [hop, resolve, invoke, builtin, Sem.run_bind, Sem.run_pure, Result.andThen_ok, List.map_toArray, List.map_cons, List.map_nil, hs, hx, hr]
  exact hK' _ _ hK
/-- 'copy' of nothing. -/
theorem wpList_copy_none (hg : o.guard = none) (t : TypeId) (ht : Tryz.prog.underlying t = some (.slice 170)) (s x : Operand) (hop : o.op = .call { callee := .builtin .copy, args := #[s, x], argTypes := #[t, t] }) (d ad : Option Addr) (dl dc sl sc : Nat)
    (hs : a.eval s = .slice d dl dc) (hx : a.eval x = .slice ad sl sc) (hn : Nat.min sl dl = 0)
    (hK : wpList Tryz.prog ops Q rest (a.put o.dst (goInt 0)) w) : wpList Tryz.prog ops Q (o :: rest) a w := by
  have hr := run_copy_none (P := Tryz.prog) w t t o.type 170 d ad dl dc sl sc ht size170 hn
  refine wpList_plain hg fun K hK' => ?_
  unfold Oper.wp execOp
  simp only [hop, resolve, invoke, builtin, Sem.run_bind, Sem.run_pure, Result.andThen_ok, List.map_toArray, List.map_cons, List.map_nil, hs, hx, hr]
  exact hK' _ _ hK

theorem zero170 (w : World) : (zeroValue 170).run Tryz.prog w = .ok (.int .u64 0) w := by kernel_rfl
theorem zeros (n : Nat) : (Builtin.zeroCells (Value.int .u64 0).cells n).toList = List.replicate n (.int .u64 0) := by
  apply List.ext_getElem?
  intro j
  by_cases hj : j < n
  · simp [Builtin.zeroCells, hj, Nat.mod_one, Value.cells]
  · simp [Builtin.zeroCells, hj, Value.cells]
theorem run_clear_words (w : World) (ty : TypeId) (g n c : Nat) (hc : ∀ j, j < n → (w.cell? ⟨g, j, none⟩).isSome = true) (hf : ∀ j, j < n → w.frozen? ⟨g, j, none⟩ = false) :
    (Builtin.clear_ #[159] ty #[.slice (some ⟨g, 0, none⟩) n c]).run Tryz.prog w = .ok (.tuple #[]) (w.setCells g 0 (List.replicate n (.int .u64 0))) := by
  cases n with
  | zero => simp [Builtin.clear_, run_underlying und159, World.setCells]
  | succ n =>
    have h1 := run_storeCells_cells (P := Tryz.prog) g 0 (List.replicate (n + 1) (.int .u64 0)) 0 w (by simpa using hc) (by simpa using hf) (by intro v hv; rw [List.eq_of_mem_replicate hv]; rfl)
    simp only [Builtin.clear_, run_underlying und159, zero170, zeros, Sem.run_bind, Sem.run_pure, Result.andThen_ok, h1, List.getElem?_toArray, List.getElem?_cons_zero, Nat.zero_add]
/-- 'clear' of words. -/
theorem wpList_clear_words (hg : o.guard = none) (s : Operand) (hop : o.op = .call { callee := .builtin .clear, args := #[s], argTypes := #[159] }) (g n c : Nat) (hs : a.eval s = .slice (some ⟨g, 0, none⟩) n c)
    (hc : ∀ j, j < n → (w.cell? ⟨g, j, none⟩).isSome = true) (hf : ∀ j, j < n → w.frozen? ⟨g, j, none⟩ = false)
    (hK : wpList Tryz.prog ops Q rest (a.put o.dst (.tuple #[])) (w.setCells g 0 (List.replicate n (.int .u64 0)))) : wpList Tryz.prog ops Q (o :: rest) a w := by
  have hr := run_clear_words w o.type g n c hc hf
  refine wpList_plain hg fun K hK' => ?_
  unfold Oper.wp execOp
  simp only [hop, resolve, invoke, builtin, Sem.run_bind, Sem.run_pure, Result.andThen_ok, List.map_toArray, List.map_cons, List.map_nil, hs, hr]
  exact hK' _ _ hK
end
end Wa
end Go.Proofs.YtdpnoaaeplgdjaaGreatDoor
/-
  THE WALK OF nat's methods: norm, make, set.
-/
namespace Go.Proofs.YtdpnoaaeplgdjaaGreatDoor
open Go.RowKit
namespace Wa

set_option maxRecDepth 100000 in
set_option maxHeartbeats 1600000 in
theorem norm_c {w : World} {a : Option Addr} {n cap x : Nat} (h : Sl w (.slice a n cap) n (wl x n)) (hx : x < 18446744073709551616 ^ n) (hn : n ≤ 1000) :
    Calls Tryz.prog 193 #[.slice a n cap] w fun e w' => e = .returned (.slice a (nw x) cap) ∧ Below w.heap.size w w' := by
  have hle := (nw_le_iff x n).2 hx
  have hcap : n ≤ cap := by
    rcases h.form with ⟨h1, h2⟩ | ⟨g, c, cur, h1, _, h3, _⟩
    · omega
    · injection h1 with _ _ e; omega
  have H : Hid (Sl w (.slice a n cap) n (wl x n)) := h
  have HX : Hid (x < 18446744073709551616 ^ n) := hx
  clear h hx
  go_enter Tryz.func193, Tryz.ntmps193
  go_wp2
  go_loopg [3] (n + 1) (fun gk s3 wx => ∃ i : Nat, s3 = .int .i64 (i : Int) ∧ i ≤ n ∧ nw x ≤ i ∧ i < gk ∧ ∃ m, wx = w.drewN m)
  case atStart => exact ⟨n, rfl, Nat.le_refl _, hle, by omega, 0, rfl⟩
  case round =>
    obtain ⟨i, rfl, hi, hni, hgk, m, rfl⟩ := hrel
    rcases Nat.eq_zero_or_pos i with h0 | h0
    · subst h0
      have e0 : Hid (nw x = 0) := (by omega : nw x = 0)
      go_wp2_with fail
      go_ret
      exact ⟨by rw [e0.out]; rfl, below_drewN (Below.refl _ _) m⟩
    · obtain ⟨g, c, cur, hv, _⟩ := H.out.form_pos (by omega)
      obtain ⟨rfl, _, rfl⟩ : a = some ⟨g, 0, none⟩ ∧ n = n ∧ cap = c := by injection hv with e1 e2 e3; exact ⟨e1, rfl, e3⟩
      clear hv
      have hcell : w.cell? ⟨g, i - 1, none⟩ = some (.int .u64 ((wo x (i - 1) : Nat) : Int)) := by rw [H.out.cell (i - 1) (by omega), wl_at _ _ _ (by omega)]
      obtain ⟨u, hu⟩ : ∃ u : Nat, wo x (i - 1) = u := ⟨_, rfl⟩
      rw [hu] at hcell
      have HU : Hid (wo x (i - 1) = u) := hu
      clear hu
      have p0 : (0 : Int) < (i : Int) := by omega
      by_cases hz : u = 0
      · subst hz
        go_wp2_with fail
        obtain ⟨g', rfl⟩ : ∃ g', gk = g' + 1 := ⟨gk - 1, by omega⟩
        have hnw : nw x ≤ i - 1 := by
          obtain ⟨k, rfl⟩ : ∃ k, i = k + 1 := ⟨i - 1, by omega⟩
          exact (nw_le_iff x k).2 (top_zero x k ((nw_le_iff x (k + 1)).1 hni) HU.out)
        go_roundg g'
        case measure => omega
        case rel => exact ⟨i - 1, congrArg _ (by omega), by omega, hnw, by omega, m, rfl⟩
      · have q1 : ¬ ((u : Int) = 0) := by omega
        have hnw : nw x = i := by
          obtain ⟨k, rfl⟩ : ∃ k, i = k + 1 := ⟨i - 1, by omega⟩
          exact nw_stop x k ((nw_le_iff x (k + 1)).1 hni) (fun h => hz (HU.out.symm.trans h))
        have HN : Hid (nw x = i) := hnw
        clear hnw
        go_wp2_with fail
        go_ret
        exact ⟨by rw [HN.out]; rfl, below_drewN (Below.refl _ _) m⟩

/-- What make gives: n words of a row of its own; the row is z's or a new one. -/
def Mk (z : Value) (n : Nat) (w : World) (e : Ending) (w' : World) : Prop :=
  ∃ v ys, e = .returned v ∧ Sl w' v n ys ∧ Below w.heap.size w w' ∧ (∀ g, v.ownBlock = some g → z.ownBlock = some g ∨ w.heap.size ≤ g)

set_option maxRecDepth 100000 in
set_option maxHeartbeats 1600000 in
theorem make_c {w : World} {z : Value} {k n : Nat} {xs : List Value} (h : Sl w z k xs) (hn : n ≤ 1000) : Calls Tryz.prog 190 #[z, .int .i64 (n : Int)] w (Mk z n w) := by
  obtain ⟨a, cap, hv, hcap⟩ : ∃ a cap, z = .slice a k cap ∧ (a = none → cap = 0 ∧ k = 0) := by
    rcases h.form with ⟨rfl, rfl⟩ | ⟨g, c, cur, h1, _⟩
    · exact ⟨none, 0, rfl, fun _ => ⟨rfl, rfl⟩⟩
    · exact ⟨_, c, h1, fun e => by cases e⟩
  subst hv
  have H : Hid (Sl w (.slice a k cap) k xs) := h
  have HC : Hid (a = none → cap = 0 ∧ k = 0) := hcap
  clear h hcap
  by_cases h1 : n ≤ cap
  · go_enter Tryz.func190, Tryz.ntmps190
    go_wp2_with fail
    go_ret
    rcases H.out.form with ⟨e, e2⟩ | ⟨g, c, cur, e, _⟩
    · injection e with e3 e4 e5
      subst e3 e5
      have : n = 0 := by omega
      subst this
      exact ⟨_, [], rfl, World.ownsRow_nil _ _ _ _, Below.refl _ _, fun g hg => .inl hg⟩
    · injection e with e3 e4 e5
      subst e3 e5
      obtain ⟨ys, hy⟩ := H.out.reach h1
      exact ⟨_, ys, rfl, hy, Below.refl _ _, fun g hg => .inl hg⟩
  · by_cases h2 : n = 1
    · subst h2
      go_enter Tryz.func190, Tryz.ntmps190
      go_wp2_with ((with_reducible refine gate_make rfl ?_); refine wpList_make_words rfl _ _ rfl 1 1 1 1 rfl rfl rfl rfl (Nat.le_refl _) (by omega) ?_; intro w1 ys hy hb hlt)
      go_ret
      exact ⟨_, ys, rfl, hy, hb, fun g hg => .inr (Nat.le_of_eq (Option.some.inj hg))⟩
    · have q2 : ¬ ((n : Int) = 1) := by omega
      go_enter Tryz.func190, Tryz.ntmps190
      go_wp2_with ((with_reducible refine gate_make rfl ?_); refine wpList_make_words rfl _ _ rfl n (n + 4) (n : Int) ((n : Int) + 4) rfl rfl rfl rfl (by omega) (by omega) ?_; intro w1 ys hy hb hlt)
      go_ret
      exact ⟨_, ys, rfl, hy, hb, fun g hg => .inr (Nat.le_of_eq (Option.some.inj hg))⟩
end Wa
end Go.Proofs.YtdpnoaaeplgdjaaGreatDoor
