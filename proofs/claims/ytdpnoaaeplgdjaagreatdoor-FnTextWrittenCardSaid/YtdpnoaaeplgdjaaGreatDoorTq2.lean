/-
  A QUOTED TEXT IS READ BACK: plain Lean over the contracts of UnquoteChar and unquote.
-/
import Derived.Test.YtdpnoaaeplgdjaaGreatDoorTq
import Derived.Test.YtdpnoaaeplgdjaaGreatDoorUv2
namespace Go.Proofs.YtdpnoaaeplgdjaaGreatDoor
open Go.RowKit Go.Proofs.YtdpnoaaeplgdjaaGreatDoorW.PrintWords Go.Proofs.YtdpnoaaeplgdjaaGreatDoor.Pquoted
namespace Tq
open Uq

theorem o_reads (c : Nat) (rest : List Nat) (hc : c < 256) (hlen : rest.length ≤ 900) (w : World) :
    Calls Tryz.prog 104 #[.string (ba ([92, 48 + c / 64, 48 + c / 8 % 8, 48 + c % 8] ++ rest)), .int .u8 34] w fun e w' => e = .returned (.tuple #[.int .i32 c, .bool false, .string (ba rest), .nilIface]) ∧ Below w.heap.size w w' := by
  have hz : (ba ([92, 48 + c / 64, 48 + c / 8 % 8, 48 + c % 8] ++ rest)).size = rest.length + 4 := by rw [ba_size]; simp
  have h0 : (ba ([92, 48 + c / 64, 48 + c / 8 % 8, 48 + c % 8] ++ rest))[0].toNat = 92 := by rw [ba_get _ 0 (by omega) (by simp)]; rfl
  have h1 : (ba ([92, 48 + c / 64, 48 + c / 8 % 8, 48 + c % 8] ++ rest))[1].toNat = 48 + c / 64 := by rw [ba_get _ 1 (by omega) (by simp)]; simp; omega
  let nib : Nat → Nat := fun j => if j = 0 then c / 8 % 8 else if j = 1 then c % 8 else 0
  have hv : numOf 8 (c / 64) nib 2 = c := by simp [numOf, nib]; omega
  have := uc_oct_at (c / 64) (by omega) (ba ([92, 48 + c / 64, 48 + c / 8 % 8, 48 + c % 8] ++ rest)) w nib (numOf 8 (c / 64) nib) (by intro j; simp only [nib]; split <;> first | omega | (split <;> omega)) rfl (fun _ => rfl)
    (by intro j hj; match j, hj with
        | 0, _ => simp only [numOf]; omega
        | 1, _ => simp [numOf, nib]; omega
        | 2, _ => rw [hv]; omega) (by omega) (by omega) h0 h1 (by
      intro j h hj
      rw [ext_get]
      match j, hj with
      | 0, _ => rw [ba_get _ _ (by omega) (by simp)]; simp [nib]; omega
      | 1, _ => rw [ba_get _ _ (by omega) (by simp)]; simp [nib]; omega)
  rw [hv, ba_drop _ 4 _ (ba_size _)] at this
  exact this

theorem u_reads (c : Nat) (rest : List Nat) (hc : c < 256) (hlen : rest.length ≤ 900) (w : World) :
    Calls Tryz.prog 104 #[.string (ba ([92, 117, 48, 48, hexd (c / 16), hexd (c % 16)] ++ rest)), .int .u8 34] w fun e w' => e = .returned (.tuple #[.int .i32 c, .bool true, .string (ba rest), .nilIface]) ∧ Below w.heap.size w w' := by
  have hz : (ba ([92, 117, 48, 48, hexd (c / 16), hexd (c % 16)] ++ rest)).size = rest.length + 6 := by rw [ba_size]; simp
  have g1 := hexd_lt (c / 16) (by omega)
  have g2 := hexd_lt (c % 16) (by omega)
  have h0 : (ba ([92, 117, 48, 48, hexd (c / 16), hexd (c % 16)] ++ rest))[0].toNat = 92 := by rw [ba_get _ 0 (by omega) (by simp)]; rfl
  have h1 : (ba ([92, 117, 48, 48, hexd (c / 16), hexd (c % 16)] ++ rest))[1].toNat = 117 := by rw [ba_get _ 1 (by omega) (by simp)]; rfl
  let nib : Nat → Nat := fun j => if j = 2 then c / 16 else if j = 3 then c % 16 else 0
  have hv : numOf 16 0 nib 4 = c := by simp [numOf, nib]; omega
  have := uc_u (ba ([92, 117, 48, 48, hexd (c / 16), hexd (c % 16)] ++ rest)) w nib (numOf 16 0 nib) (by intro j; simp only [nib]; split <;> first | omega | (split <;> omega)) rfl (fun _ => rfl)
    (by intro j hj; match j, hj with
        | 0, _ => simp [numOf]
        | 1, _ => simp [numOf, nib]
        | 2, _ => simp [numOf, nib]
        | 3, _ => simp [numOf, nib]; omega
        | 4, _ => rw [hv]; omega) (by omega) (by omega) h0 h1 (by
      intro j h hj
      rw [ext_get]
      match j, hj with
      | 0, _ => rw [ba_get _ _ (by omega) (by simp)]; simp [nib, hexd]
      | 1, _ => rw [ba_get _ _ (by omega) (by simp)]; simp [nib, hexd]
      | 2, _ => rw [ba_get _ _ (by omega) (by simp)]; simp [nib]; omega
      | 3, _ => rw [ba_get _ _ (by omega) (by simp)]; simp [nib]; omega)
  rw [hv, ba_drop _ 6 _ (ba_size _)] at this
  exact this

set_option maxHeartbeats 4000000 in
theorem U_reads (c : Nat) (rest : List Nat) (hc : c < 256) (hlen : rest.length ≤ 900) (w : World) :
    Calls Tryz.prog 104 #[.string (ba ([92, 85, 48, 48, 48, 48, 48, 48, hexd (c / 16), hexd (c % 16)] ++ rest)), .int .u8 34] w fun e w' => e = .returned (.tuple #[.int .i32 c, .bool true, .string (ba rest), .nilIface]) ∧ Below w.heap.size w w' := by
  have hz : (ba ([92, 85, 48, 48, 48, 48, 48, 48, hexd (c / 16), hexd (c % 16)] ++ rest)).size = rest.length + 10 := by rw [ba_size]; simp
  have g1 := hexd_lt (c / 16) (by omega)
  have g2 := hexd_lt (c % 16) (by omega)
  have h0 : (ba ([92, 85, 48, 48, 48, 48, 48, 48, hexd (c / 16), hexd (c % 16)] ++ rest))[0].toNat = 92 := by rw [ba_get _ 0 (by omega) (by simp)]; rfl
  have h1 : (ba ([92, 85, 48, 48, 48, 48, 48, 48, hexd (c / 16), hexd (c % 16)] ++ rest))[1].toNat = 85 := by rw [ba_get _ 1 (by omega) (by simp)]; rfl
  let nib : Nat → Nat := fun j => if j = 6 then c / 16 else if j = 7 then c % 16 else 0
  have hv : numOf 16 0 nib 8 = c := by simp [numOf, nib]; omega
  have := uc_U (ba ([92, 85, 48, 48, 48, 48, 48, 48, hexd (c / 16), hexd (c % 16)] ++ rest)) w nib (numOf 16 0 nib) (by intro j; simp only [nib]; split <;> first | omega | (split <;> omega)) rfl (fun _ => rfl)
    (by intro j hj; match j, hj with
        | 0, _ => simp [numOf]
        | 1, _ => simp [numOf, nib]
        | 2, _ => simp [numOf, nib]
        | 3, _ => simp [numOf, nib]
        | 4, _ => simp [numOf, nib]
        | 5, _ => simp [numOf, nib]
        | 6, _ => simp [numOf, nib]
        | 7, _ => simp [numOf, nib]; omega
        | 8, _ => rw [hv]; omega) (by omega) (by omega) h0 h1 (by
      intro j h hj
      rw [ext_get]
      match j, hj with
      | 0, _ => rw [ba_get _ _ (by omega) (by simp)]; simp [nib, hexd]
      | 1, _ => rw [ba_get _ _ (by omega) (by simp)]; simp [nib, hexd]
      | 2, _ => rw [ba_get _ _ (by omega) (by simp)]; simp [nib, hexd]
      | 3, _ => rw [ba_get _ _ (by omega) (by simp)]; simp [nib, hexd]
      | 4, _ => rw [ba_get _ _ (by omega) (by simp)]; simp [nib, hexd]
      | 5, _ => rw [ba_get _ _ (by omega) (by simp)]; simp [nib, hexd]
      | 6, _ => rw [ba_get _ _ (by omega) (by simp)]; simp [nib]; omega
      | 7, _ => rw [ba_get _ _ (by omega) (by simp)]; simp [nib]; omega)
  rw [hv, ba_drop _ 10 _ (ba_size _)] at this
  exact this

/-- Any piece: the byte comes back. -/
theorem piece_reads (c m : Nat) (hc : c < 256) (rest : List Nat) (hlen : rest.length ≤ 900) :
    ∃ mb : Bool, (mb = true → c < 128) ∧ (∀ w : World, Calls Tryz.prog 104 #[.string (ba (piece c m ++ rest)), .int .u8 34] w fun e w' => e = .returned (.tuple #[.int .i32 c, .bool mb, .string (ba rest), .nilIface]) ∧ Below w.heap.size w w') := by
  unfold piece
  by_cases h0 : m = 0 ∧ 32 ≤ c ∧ c < 127 ∧ c ≠ 34 ∧ c ≠ 92
  · rw [if_pos h0]
    exact ⟨false, by simp, raw_reads c rest h0.2 hlen⟩
  · rw [if_neg h0]
    by_cases h1 : m = 1
    · rw [if_pos h1]
      exact ⟨false, by simp, o_reads c rest hc hlen⟩
    · rw [if_neg h1]
      by_cases h2 : m = 2 ∧ c < 128
      · rw [if_pos h2]
        exact ⟨true, fun _ => h2.2, u_reads c rest hc hlen⟩
      · rw [if_neg h2]
        by_cases h3 : m = 3 ∧ c < 128
        · rw [if_pos h3]
          exact ⟨true, fun _ => h3.2, U_reads c rest hc hlen⟩
        · rw [if_neg h3]
          exact ⟨false, by simp, x_reads c rest hc hlen⟩

theorem piece_head (c m : Nat) : ∃ x l, piece c m = x :: l ∧ x < 127 ∧ x ≠ 34 ∧ x ≠ 10 := by
  unfold piece
  by_cases h0 : m = 0 ∧ 32 ≤ c ∧ c < 127 ∧ c ≠ 34 ∧ c ≠ 92
  · rw [if_pos h0]; exact ⟨c, [], rfl, by omega, by omega, by omega⟩
  · rw [if_neg h0]
    repeat' split
    all_goals exact ⟨92, _, rfl, by omega, by omega, by omega⟩

theorem tail_succ (s : ByteArray) (l : List Int) (i d : Nat) : tail s l i (d + 1) = piece (byteAt s i) (wayAt l i) ++ tail s l (i + 1) d := by
  unfold tail
  rw [List.range'_succ, List.flatMap_cons, List.append_assoc]

theorem tail_len (s : ByteArray) (l : List Int) : ∀ d i, (tail s l i d).length ≤ 10 * d + 1
  | 0, i => by simp [tail]
  | d + 1, i => by
    rw [tail_succ, List.length_append]
    have := piece_len (byteAt s i) (wayAt l i)
    have := tail_len s l d (i + 1)
    omega

theorem tail_reads (s : ByteArray) (l : List Int) : ∀ d i, d ≤ 60 → Reads ((List.range' i d).map (byteAt s)) (ba (tail s l i d))
  | 0, i, _ => rfl
  | d + 1, i, hd => by
    rw [List.range'_succ, List.map_cons, tail_succ]
    have hl := tail_len s l d (i + 1)
    obtain ⟨mb, hmb, hcall⟩ := piece_reads (byteAt s i) (wayAt l i) (byteAt_lt s i) (tail s l (i + 1) d) (by omega)
    obtain ⟨x, ll, hx, x1, x2, x3⟩ := piece_head (byteAt s i) (wayAt l i)
    have hz : 0 < (ba (piece (byteAt s i) (wayAt l i) ++ tail s l (i + 1) d)).size := by rw [ba_size, hx]; simp
    have hx0 : (ba (piece (byteAt s i) (wayAt l i) ++ tail s l (i + 1) d))[0].toNat = x := by
      rw [ba_get _ 0 hz (by rw [hx]; simp)]
      simp [hx]
      omega
    have hdr : (ba (piece (byteAt s i) (wayAt l i) ++ tail s l (i + 1) d)).extract (piece (byteAt s i) (wayAt l i)).length (ba (piece (byteAt s i) (wayAt l i) ++ tail s l (i + 1) d)).size = ba (tail s l (i + 1) d) := by
      rw [ba_drop _ _ _ (ba_size _)]
      simp
    refine ⟨hz, fun h => ?_, byteAt_lt s i, (piece (byteAt s i) (wayAt l i)).length, mb, hmb, ?_, ?_⟩
    · rw [hx0]; exact ⟨x2, x3⟩
    · rw [hdr]; exact hcall
    · rw [hdr]; exact tail_reads s l d (i + 1) (by omega)

end Tq
end Go.Proofs.YtdpnoaaeplgdjaaGreatDoor
