/-
  WHAT laws.quoted GIVES, in plain Lean: a quote, a piece for each byte, a quote.
-/
import Derived.Test.YtdpnoaaeplgdjaaGreatDoorPquotedx2
import Derived.Test.YtdpnoaaeplgdjaaGreatDoorUn
namespace Go.Proofs.YtdpnoaaeplgdjaaGreatDoor
open Go.RowKit Go.Proofs.YtdpnoaaeplgdjaaGreatDoorW.PrintWords Go.Proofs.YtdpnoaaeplgdjaaGreatDoor.Pquoted
namespace Tq
open Uq

/-- Numbers as bytes. -/
def ba (l : List Nat) : ByteArray := ⟨(l.map (·.toUInt8)).toArray⟩

theorem ba_size (l : List Nat) : (ba l).size = l.length := by simp [ba, ByteArray.size]
theorem ba_app (a b : List Nat) : ba a ++ ba b = ba (a ++ b) := by
  apply ByteArray.ext
  simp [ba]
theorem ba_get (l : List Nat) (i : Nat) (h : i < (ba l).size) (h' : i < l.length) : (ba l)[i].toNat = l[i] % 256 := by
  show ((l.map (fun x : Nat => x.toUInt8)).toArray[i]'(by simpa [ba_size] using h)).toNat = _
  simp
theorem ba_drop (l : List Nat) (k n : Nat) (hn : n = l.length) : (ba l).extract k n = ba (l.drop k) := by
  subst hn
  apply ByteArray.ext
  apply Array.toList_inj.1
  simp only [ba, Array.toList_extract, ByteArray.data_extract, List.extract_eq_take_drop, List.map_drop]
  exact List.take_of_length_le (by simp)

/-- The piece of a quoted text that tells the byte c, by the way m. -/
def piece (c m : Nat) : List Nat :=
  if m = 0 ∧ 32 ≤ c ∧ c < 127 ∧ c ≠ 34 ∧ c ≠ 92 then [c]
  else if m = 1 then [92, 48 + c / 64, 48 + c / 8 % 8, 48 + c % 8]
  else if m = 2 ∧ c < 128 then [92, 117, 48, 48, hexd (c / 16), hexd (c % 16)]
  else if m = 3 ∧ c < 128 then [92, 85, 48, 48, 48, 48, 48, 48, hexd (c / 16), hexd (c % 16)]
  else [92, 120, hexd (c / 16), hexd (c % 16)]

theorem hex_all2 : (List.range 256).all (fun c => decide (spec_Hex.f 30 (c : Int) 2 = some (ba [hexd (c / 16), hexd (c % 16)]))) = true := by kernel_rfl
theorem hex_all4 : (List.range 256).all (fun c => decide (spec_Hex.f 30 (c : Int) 4 = some (ba [48, 48, hexd (c / 16), hexd (c % 16)]))) = true := by kernel_rfl
theorem hex_all8 : (List.range 256).all (fun c => decide (spec_Hex.f 30 (c : Int) 8 = some (ba [48, 48, 48, 48, 48, 48, hexd (c / 16), hexd (c % 16)]))) = true := by kernel_rfl

theorem hex2 (c : Nat) (hc : c < 256) (k : Nat) (hk : 30 ≤ k) : spec_Hex.f k (c : Int) 2 = some (ba [hexd (c / 16), hexd (c % 16)]) :=
  at_rounds (spec_Hex.mono _ _) hk (of_decide_eq_true (List.all_eq_true.1 hex_all2 c (List.mem_range.2 hc)))
theorem hex4 (c : Nat) (hc : c < 256) (k : Nat) (hk : 30 ≤ k) : spec_Hex.f k (c : Int) 4 = some (ba [48, 48, hexd (c / 16), hexd (c % 16)]) :=
  at_rounds (spec_Hex.mono _ _) hk (of_decide_eq_true (List.all_eq_true.1 hex_all4 c (List.mem_range.2 hc)))
theorem hex8 (c : Nat) (hc : c < 256) (k : Nat) (hk : 30 ≤ k) : spec_Hex.f k (c : Int) 8 = some (ba [48, 48, 48, 48, 48, 48, hexd (c / 16), hexd (c % 16)]) :=
  at_rounds (spec_Hex.mono _ _) hk (of_decide_eq_true (List.all_eq_true.1 hex_all8 c (List.mem_range.2 hc)))

/-- The byte at i, and the way that is asked for it. -/
def byteAt (s : ByteArray) (i : Nat) : Nat := (bt s i).toNat
def wayAt (l : List Int) (i : Nat) : Nat := (Int.tmod (if (i : Int) < (l.length : Int) then rd l i else 0) 4).toNat

theorem byteAt_lt (s : ByteArray) (i : Nat) : byteAt s i < 256 := by
  have := bt_range s i
  unfold byteAt
  omega
theorem byteAt_bt (s : ByteArray) (i : Nat) : wrap64 (bt s i) = (byteAt s i : Int) := by
  have := bt_range s i
  unfold byteAt
  rw [Int.toNat_of_nonneg this.1]
  unfold wrap64
  omega

/-- The rest of the text from the byte i on. -/
def tail (s : ByteArray) (l : List Int) (i d : Nat) : List Nat := ((List.range' i d).flatMap fun j => piece (byteAt s j) (wayAt l j)) ++ [34]

theorem piece_len (c m : Nat) : (piece c m).length ≤ 10 := by
  unfold piece
  repeat' split
  all_goals simp

theorem way_lt (l : List Int) (hl : ∀ x ∈ l, 0 ≤ x ∧ x < 256) (i : Nat) : wayAt l i < 4 ∧ Int.tmod (if (i : Int) < (l.length : Int) then rd l i else 0) 4 = (wayAt l i : Int) := by
  have h0 : 0 ≤ (if (i : Int) < (l.length : Int) then rd l i else 0) := by
    split
    · rename_i h
      have hh : i < l.length := by omega
      have e : rd l (i : Int) = l[i] := by simp [rd, hh]
      rw [e]
      exact (hl _ (List.getElem_mem _)).1
    · exact Int.le_refl _
  unfold wayAt
  generalize (if (i : Int) < (l.length : Int) then rd l i else 0) = x at h0 ⊢
  have h2 := Int.tmod_lt_of_pos x (b := 4) (by omega)
  have h3 : 0 ≤ x.tmod 4 := Int.tmod_nonneg 4 h0
  omega

theorem ba_nil_app (a : ByteArray) : a ++ ba [] = a := by apply ByteArray.ext; simp [ba]

theorem ext_byte (s : ByteArray) (i : Nat) (hi : i < s.size) (hs : s.size ≤ 60) : s.extract (i : Int).toNat ((wrap64 ((i : Int) + 1)) : Int).toNat = ba [byteAt s i] := by
  have e1 : ((wrap64 ((i : Int) + 1)) : Int).toNat = i + 1 := by unfold wrap64; omega
  have e2 : (i : Int).toNat = i := by omega
  rw [e1, e2]
  have e3 : byteAt s i = s[i].toNat := by simp [byteAt, bt, hi]
  rw [e3]
  apply ByteArray.ext
  apply Array.ext
  · simp [ba]; have : s.data.size = s.size := rfl; omega
  · intro j h1 h2
    have hj : j = 0 := by simp [ba] at h2; exact h2
    subst hj
    simp [ba]
    rfl

theorem oct_all : (List.range 256).all (fun c => decide (([(wrap64 (48 + (wrap64 (Int.tdiv (c : Int) 64)))) % 256, (wrap64 (48 + (Int.tmod (wrap64 (Int.tdiv (c : Int) 8)) 8))) % 256, (wrap64 (48 + (Int.tmod (c : Int) 8))) % 256] : List Int) = [48 + c / 64, 48 + c / 8 % 8, 48 + c % 8].map fun x : Nat => (x : Int))) = true := by kernel_rfl
theorem oct (c : Nat) (hc : c < 256) : ([(wrap64 (48 + (wrap64 (Int.tdiv (c : Int) 64)))) % 256, (wrap64 (48 + (Int.tmod (wrap64 (Int.tdiv (c : Int) 8)) 8))) % 256, (wrap64 (48 + (Int.tmod (c : Int) 8))) % 256] : List Int) = [48 + c / 64, 48 + c / 8 % 8, 48 + c % 8].map fun x : Nat => (x : Int) :=
  of_decide_eq_true (List.all_eq_true.1 oct_all c (List.mem_range.2 hc))

theorem str_ba (l : List Nat) : strOfNums (l.map fun x : Nat => (x : Int)) = ba l := by
  unfold strOfNums ba
  rw [List.map_map]
  rfl

theorem w92 : (⟨#[92]⟩ : ByteArray) = ba [92] := rfl
theorem w117 : (⟨#[92, 117]⟩ : ByteArray) = ba [92, 117] := rfl
theorem w85 : (⟨#[92, 85]⟩ : ByteArray) = ba [92, 85] := rfl
theorem w120 : (⟨#[92, 120]⟩ : ByteArray) = ba [92, 120] := rfl
theorem w34 : (⟨#[34]⟩ : ByteArray) = ba [34] := rfl

/-- One round: the byte i is put down by its piece. -/
theorem round (s : ByteArray) (l : List Int) (acc : ByteArray) (i : Nat) (hi : i < s.size) (hs : s.size ≤ 60) (hacc : acc.size ≤ 1000) (hl : ∀ x ∈ l, 0 ≤ x ∧ x < 256) (k : Nat) (hk : 40 ≤ k) (r : ByteArray)
    (h : ∀ k', k ≤ k' → laws_quoted.l0 k' s l (acc ++ ba (piece (byteAt s i) (wayAt l i))) s.size ((i + 1 : Nat) : Int) = some r) :
    ∀ k', k + 5 ≤ k' → laws_quoted.l0 k' s l acc s.size (i : Int) = some r := by
  intro k' hk'
  obtain ⟨K, rfl⟩ : ∃ K, k' = K + 5 := ⟨k' - 5, by omega⟩
  obtain ⟨hm4, hm⟩ := way_lt l hl i
  have hB := byteAt_bt s i
  have hc := byteAt_lt s i
  have hx := ext_byte s i hi hs
  obtain ⟨kk, hkk⟩ : ∃ kk, (if (i : Int) < (l.length : Int) then rd l i else 0) = kk := ⟨_, rfl⟩
  rw [hkk] at hm
  have hw : wrap64 ((i : Int) + 1) = ((i + 1 : Nat) : Int) := by unfold wrap64; omega
  obtain ⟨c, hcc⟩ : ∃ c, byteAt s i = c := ⟨_, rfl⟩
  obtain ⟨m, hmm⟩ : ∃ m, wayAt l i = m := ⟨_, rfl⟩
  rw [hcc] at hB hc h hx
  rw [hmm] at hm hm4 h
  have i0 : (0 : Int) ≤ (i : Int) := by omega
  have i1 : (i : Int) < (s.size : Int) := by omega
  rw [laws_quoted.l0, if_pos i1]
  have hj : (if (i : Int) < (l.length : Int) then (if (0 : Int) ≤ (i : Int) then (laws_quoted.j1 (K + 4) s l acc i (rd l i) s.size i) else none) else (laws_quoted.j1 (K + 4) s l acc i 0 s.size i)) = laws_quoted.j1 (K + 4) s l acc i kk s.size i := by
    rw [← hkk, if_pos i0]
    split <;> rfl
  rw [hj, laws_quoted.j1, if_pos i0, if_pos i1, hB, hm]
  have hp : ∀ b : Bool, b = decide (m = 0 ∧ 32 ≤ c ∧ c < 127 ∧ c ≠ 34 ∧ c ≠ 92) → laws_quoted.j2 (K + 3) s l acc i kk (c : Int) s.size i b = some r := by
    intro b hb
    rw [laws_quoted.j2]
    by_cases hraw : m = 0 ∧ 32 ≤ c ∧ c < 127 ∧ c ≠ 34 ∧ c ≠ 92
    · have hpc : piece c m = [c] := by unfold piece; rw [if_pos hraw]
      rw [hpc] at h
      rw [hb, decide_eq_true hraw, if_pos rfl, if_pos i0, if_pos (by omega), if_pos (by omega), hx, if_pos (by rw [ba_size]; simp only [List.length_cons, List.length_nil]; omega), hw]
      exact h _ (by omega)
    · rw [hb, decide_eq_false hraw, if_neg (by decide), hm]
      by_cases m1 : m = 1
      · have hpc : piece c m = [92, 48 + c / 64, 48 + c / 8 % 8, 48 + c % 8] := by unfold piece; rw [if_neg hraw, if_pos m1]
        rw [hpc] at h
        rw [if_pos (by omega), oct c hc, Option.bind_some, str_ba, w92, ba_app, if_pos (by simp [ba_size]), if_pos (by simp only [ba_size, List.length_cons, List.length_nil, List.length_append]; omega), hw]
        exact h _ (by omega)
      · rw [if_neg (by omega)]
        have hp3 : ∀ b : Bool, b = decide (m = 2 ∧ c < 128) → laws_quoted.j3 (K + 2) s l acc kk (c : Int) s.size i b = some r := by
          intro b hb
          rw [laws_quoted.j3]
          by_cases m2 : m = 2 ∧ c < 128
          · have hpc : piece c m = [92, 117, 48, 48, hexd (c / 16), hexd (c % 16)] := by unfold piece; rw [if_neg hraw, if_neg m1, if_pos m2]
            rw [hpc] at h
            rw [hb, decide_eq_true m2, if_pos rfl, hex4 c hc _ (by omega), Option.bind_some, w117, ba_app, if_pos (by simp [ba_size]), if_pos (by simp only [ba_size, List.length_cons, List.length_nil, List.length_append]; omega), hw]
            exact h _ (by omega)
          · rw [hb, decide_eq_false m2, if_neg (by decide), hm]
            have hp4 : ∀ b : Bool, b = decide (m = 3 ∧ c < 128) → laws_quoted.j4 (K + 1) s l acc (c : Int) s.size i b = some r := by
              intro b hb
              rw [laws_quoted.j4]
              by_cases m3 : m = 3 ∧ c < 128
              · have hpc : piece c m = [92, 85, 48, 48, 48, 48, 48, 48, hexd (c / 16), hexd (c % 16)] := by unfold piece; rw [if_neg hraw, if_neg m1, if_neg m2, if_pos m3]
                rw [hpc] at h
                rw [hb, decide_eq_true m3, if_pos rfl, hex8 c hc _ (by omega), Option.bind_some, w85, ba_app, if_pos (by simp [ba_size]), if_pos (by simp only [ba_size, List.length_cons, List.length_nil, List.length_append]; omega), hw]
                exact h _ (by omega)
              · have hpc : piece c m = [92, 120, hexd (c / 16), hexd (c % 16)] := by unfold piece; rw [if_neg hraw, if_neg m1, if_neg m2, if_neg m3]
                rw [hpc] at h
                rw [hb, decide_eq_false m3, if_neg (by decide), hex2 c hc _ (by omega), Option.bind_some, w120, ba_app, if_pos (by simp [ba_size]), if_pos (by simp only [ba_size, List.length_cons, List.length_nil, List.length_append]; omega), hw]
                exact h _ (by omega)
            by_cases m3 : (m : Int) = 3
            · rw [if_pos m3]
              exact hp4 _ (by by_cases h9 : c < 128 <;> simp [h9] <;> omega)
            · rw [if_neg m3]
              exact hp4 _ (decide_eq_false (by omega)).symm
        by_cases m2 : (m : Int) = 2
        · rw [if_pos m2]
          exact hp3 _ (by by_cases h9 : c < 128 <;> simp [h9] <;> omega)
        · rw [if_neg m2]
          exact hp3 _ (decide_eq_false (by omega)).symm
  by_cases c0 : (m : Int) = 0
  · rw [if_pos c0]
    by_cases c1 : (c : Int) ≥ 32
    · rw [if_pos c1]
      by_cases c2 : (c : Int) < 127
      · rw [if_pos c2]
        by_cases c3 : (c : Int) = 34
        · rw [if_pos c3]
          exact hp _ (decide_eq_false (by omega)).symm
        · rw [if_neg c3]
          refine hp _ ?_
          by_cases c4 : c = 92
          · subst c4; simp
          · have : ((c : Int) != 92) = true := by simp; omega
            rw [this]
            exact (decide_eq_true (by omega)).symm
      · rw [if_neg c2]
        exact hp _ (decide_eq_false (by omega)).symm
    · rw [if_neg c1]
      exact hp _ (decide_eq_false (by omega)).symm
  · rw [if_neg c0]
    exact hp _ (decide_eq_false (by omega)).symm

theorem quoted_from (s : ByteArray) (l : List Int) (hs : s.size ≤ 60) (hl : ∀ x ∈ l, 0 ≤ x ∧ x < 256) : ∀ (d i : Nat) (acc : ByteArray), i + d = s.size → acc.size ≤ 1 + 10 * i →
    ∃ k, 40 ≤ k ∧ ∀ k', k ≤ k' → laws_quoted.l0 k' s l acc s.size (i : Int) = some (acc ++ ba (tail s l i d))
  | 0, i, acc, h, ha => by
    refine ⟨41, by omega, fun k' hk' => ?_⟩
    obtain ⟨K, rfl⟩ : ∃ K, k' = K + 1 := ⟨k' - 1, by omega⟩
    rw [laws_quoted.l0, if_neg (by omega), if_pos (by omega)]
    rfl
  | d + 1, i, acc, h, ha => by
    have hp := piece_len (byteAt s i) (wayAt l i)
    obtain ⟨k, hk, hr⟩ := quoted_from s l hs hl d (i + 1) (acc ++ ba (piece (byteAt s i) (wayAt l i))) (by omega) (by rw [ByteArray.size_append, ba_size]; omega)
    refine ⟨k + 5, by omega, ?_⟩
    have := round s l acc i (by omega) hs (by omega) hl k hk _ hr
    intro k' hk'
    rw [this k' hk']
    have e : acc ++ ba (piece (byteAt s i) (wayAt l i)) ++ ba (tail s l (i + 1) d) = acc ++ ba (tail s l i (d + 1)) := by
      rw [ByteArray.append_assoc, ba_app]
      unfold tail
      rw [List.range'_succ, List.flatMap_cons, List.append_assoc]
    rw [e]

theorem quoted_is (s : ByteArray) (l : List Int) (hs : s.size ≤ 60) (hl : ∀ x ∈ l, 0 ≤ x ∧ x < 256) : ∃ k, laws_quoted.f k s l = some (ba (34 :: tail s l 0 s.size)) := by
  obtain ⟨k, _, h⟩ := quoted_from s l hs hl s.size 0 ⟨#[34]⟩ (by omega) (by decide)
  refine ⟨k, ?_⟩
  have := h k (Nat.le_refl _)
  unfold laws_quoted.f
  rw [show ((0 : Nat) : Int) = 0 from rfl] at this
  rw [this, w34, ba_app]
  rfl

theorem hexd_lt (n : Nat) (h : n < 16) : hexd n < 128 := by unfold hexd; split <;> omega

theorem raw_reads (c : Nat) (rest : List Nat) (hc : 32 ≤ c ∧ c < 127 ∧ c ≠ 34 ∧ c ≠ 92) (hlen : rest.length ≤ 900) (w : World) :
    Calls Tryz.prog 104 #[.string (ba ([c] ++ rest)), .int .u8 34] w fun e w' => e = .returned (.tuple #[.int .i32 c, .bool false, .string (ba rest), .nilIface]) ∧ Below w.heap.size w w' := by
  have hz : (ba ([c] ++ rest)).size = rest.length + 1 := by rw [ba_size]; simp
  have h0 : (ba ([c] ++ rest))[0].toNat = c := by rw [ba_get _ 0 (by omega) (by simp)]; simp; omega
  have := uc_raw (ba ([c] ++ rest)) w (by omega) (by omega) (by omega) (by omega) (by omega)
  rw [h0, ba_drop _ 1 _ (ba_size _)] at this
  exact this

/-- Figures, and the number that they make. -/
def numOf (b a0 : Nat) (nib : Nat → Nat) : Nat → Nat
  | 0 => a0
  | j + 1 => b * numOf b a0 nib j + nib j

theorem x_reads (c : Nat) (rest : List Nat) (hc : c < 256) (hlen : rest.length ≤ 900) (w : World) :
    Calls Tryz.prog 104 #[.string (ba ([92, 120, hexd (c / 16), hexd (c % 16)] ++ rest)), .int .u8 34] w fun e w' => e = .returned (.tuple #[.int .i32 c, .bool false, .string (ba rest), .nilIface]) ∧ Below w.heap.size w w' := by
  have hz : (ba ([92, 120, hexd (c / 16), hexd (c % 16)] ++ rest)).size = rest.length + 4 := by rw [ba_size]; simp
  have g1 := hexd_lt (c / 16) (by omega)
  have g2 := hexd_lt (c % 16) (by omega)
  have h0 : (ba ([92, 120, hexd (c / 16), hexd (c % 16)] ++ rest))[0].toNat = 92 := by rw [ba_get _ 0 (by omega) (by simp)]; rfl
  have h1 : (ba ([92, 120, hexd (c / 16), hexd (c % 16)] ++ rest))[1].toNat = 120 := by rw [ba_get _ 1 (by omega) (by simp)]; rfl
  let nib : Nat → Nat := fun j => if j = 0 then c / 16 else if j = 1 then c % 16 else 0
  have hv : numOf 16 0 nib 2 = c := by simp [numOf, nib]; omega
  have := uc_x (ba ([92, 120, hexd (c / 16), hexd (c % 16)] ++ rest)) w nib (numOf 16 0 nib) (by intro j; simp only [nib]; split; · omega
                                                                                                 split <;> omega) rfl (fun _ => rfl)
    (by intro j hj; match j, hj with
        | 0, _ => simp [numOf]
        | 1, _ => simp [numOf, nib]; omega
        | 2, _ => rw [hv]; omega) (by omega) (by omega) h0 h1 (by
      intro j h hj
      rw [ext_get]
      match j, hj with
      | 0, _ => rw [ba_get _ _ (by omega) (by simp)]; simp [nib]; omega
      | 1, _ => rw [ba_get _ _ (by omega) (by simp)]; simp [nib]; omega)
  rw [hv, ba_drop _ 4 _ (ba_size _)] at this
  exact this

end Tq
end Go.Proofs.YtdpnoaaeplgdjaaGreatDoor
