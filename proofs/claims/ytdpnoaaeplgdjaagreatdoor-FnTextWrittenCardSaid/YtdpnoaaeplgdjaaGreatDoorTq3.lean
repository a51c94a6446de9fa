/-
  A QUOTED TEXT IS READ BACK WHOLE: unquote at what quoted gives.
-/
import Derived.Test.YtdpnoaaeplgdjaaGreatDoorTq2
namespace Go.Proofs.YtdpnoaaeplgdjaaGreatDoor
open Go.RowKit Go.Proofs.YtdpnoaaeplgdjaaGreatDoorW.PrintWords Go.Proofs.YtdpnoaaeplgdjaaGreatDoor.Pquoted
namespace Tq
open Uq

theorem s_eq (s : ByteArray) : ba ((List.range' 0 s.size).map (byteAt s)) = s := by
  apply ByteArray.ext
  apply Array.ext
  · have : s.data.size = s.size := rfl
    simp [ba, this]
  · intro j h1 h2
    have hj : j < s.size := h2
    simp [ba, byteAt, bt, hj]
    rfl

theorem index_neg : ∀ (l : List UInt8) (c : UInt8), c ∉ l → Lib.indexByte l c = -1
  | [], _, _ => rfl
  | b :: l, c, h => by
    have h1 : (b == c) = false := by rw [beq_eq_false_iff_ne]; intro e; exact h (by rw [e]; exact List.mem_cons_self ..)
    have h2 := index_neg l c fun hm => h (List.mem_cons_of_mem _ hm)
    simp [Lib.indexByte, h1, h2]

theorem index_pos : ∀ (l : List UInt8) (c : UInt8), c ∈ l → Lib.indexByte l c ≠ -1
  | [], _, h => by cases h
  | b :: l, c, h => by
    unfold Lib.indexByte
    by_cases h1 : (b == c) = true
    · rw [if_pos h1]; decide
    · rw [if_neg h1]
      have hm : c ∈ l := by
        rcases List.mem_cons.1 h with e | e
        · exact absurd (by rw [e]; exact BEq.rfl) h1
        · exact e
      have h2 := index_pos l c hm
      have h3 : (Lib.indexByte l c == -1) = false := by rw [beq_eq_false_iff_ne]; exact h2
      rw [h3]
      have := Lib.indexByte_ge l c
      simp only [Bool.false_eq_true, if_false]
      omega

theorem index_end : ∀ (l : List UInt8) (c : UInt8), c ∉ l → Lib.indexByte (l ++ [c]) c = l.length
  | [], c, _ => by simp [Lib.indexByte]
  | b :: l, c, h => by
    have h1 : (b == c) = false := by rw [beq_eq_false_iff_ne]; intro e; exact h (by rw [e]; exact List.mem_cons_self ..)
    have h2 := index_end l c fun hm => h (List.mem_cons_of_mem _ hm)
    rw [List.cons_append]
    unfold Lib.indexByte
    rw [h1, h2]
    have h3 : (((l.length : Nat) : Int) == -1) = false := by rw [beq_eq_false_iff_ne]; omega
    rw [h3]
    simp

theorem mem_u8 (l : List Nat) (c : Nat) (hc : c < 256) (hl : ∀ x ∈ l, x < 256) : c.toUInt8 ∈ l.map (fun x : Nat => x.toUInt8) ↔ c ∈ l := by
  constructor
  · intro h
    obtain ⟨x, hx, e⟩ := List.mem_map.1 h
    have h1 := congrArg UInt8.toNat e
    have h2 := hl x hx
    simp at h1
    rw [Nat.mod_eq_of_lt h2, Nat.mod_eq_of_lt hc] at h1
    rw [← h1]; exact hx
  · intro h
    exact List.mem_map.2 ⟨c, h, rfl⟩

theorem hexd_lt2 (n : Nat) (h : n < 16) : hexd n < 127 := by unfold hexd; split <;> omega

theorem hexd_in (n : Nat) (h : n < 16) : 48 ≤ hexd n ∧ hexd n < 128 ∧ hexd n ≠ 92 := by unfold hexd; split <;> omega

theorem piece_in (c m : Nat) (hc : c < 256) : ∀ x ∈ piece c m, x < 127 ∧ x ≠ 34 := by
  have g1 := hexd_in (c / 16) (by omega)
  have g2 := hexd_in (c % 16) (by omega)
  have g3 := hexd_lt2 (c / 16) (by omega)
  have g4 := hexd_lt2 (c % 16) (by omega)
  unfold piece
  intro x hx
  by_cases h0 : m = 0 ∧ 32 ≤ c ∧ c < 127 ∧ c ≠ 34 ∧ c ≠ 92
  · rw [if_pos h0] at hx; simp at hx; omega
  · rw [if_neg h0] at hx
    by_cases h1 : m = 1
    · rw [if_pos h1] at hx; simp at hx; omega
    · rw [if_neg h1] at hx
      by_cases h2 : m = 2 ∧ c < 128
      · rw [if_pos h2] at hx; simp at hx; omega
      · rw [if_neg h2] at hx
        by_cases h3 : m = 3 ∧ c < 128
        · rw [if_pos h3] at hx; simp at hx; omega
        · rw [if_neg h3] at hx; simp at hx; omega

theorem piece_raw (c m : Nat) (h : 92 ∉ piece c m) : piece c m = [c] ∧ 32 ≤ c ∧ c < 127 := by
  unfold piece at h ⊢
  by_cases h0 : m = 0 ∧ 32 ≤ c ∧ c < 127 ∧ c ≠ 34 ∧ c ≠ 92
  · rw [if_pos h0]; exact ⟨rfl, by omega, by omega⟩
  · rw [if_neg h0] at h
    exfalso
    apply h
    repeat' split
    all_goals simp

/-- The pieces, one behind the other. -/
def body (s : ByteArray) (l : List Int) (i d : Nat) : List Nat := (List.range' i d).flatMap fun j => piece (byteAt s j) (wayAt l j)

theorem body_in (s : ByteArray) (l : List Int) (i d : Nat) : ∀ x ∈ body s l i d, x < 127 ∧ x ≠ 34 := by
  intro x hx
  obtain ⟨j, _, hj⟩ := List.mem_flatMap.1 hx
  exact piece_in _ _ (byteAt_lt s j) x hj

theorem body_raw (s : ByteArray) (l : List Int) : ∀ d i, 92 ∉ body s l i d → body s l i d = (List.range' i d).map (byteAt s) ∧ ∀ x ∈ body s l i d, 32 ≤ x
  | 0, i, _ => ⟨rfl, by simp [body]⟩
  | d + 1, i, h => by
    have e : body s l i (d + 1) = piece (byteAt s i) (wayAt l i) ++ body s l (i + 1) d := by
      unfold body
      rw [List.range'_succ, List.flatMap_cons]
    rw [e] at h ⊢
    obtain ⟨p1, p2, _⟩ := piece_raw _ _ (fun hm => h (List.mem_append_left _ hm))
    obtain ⟨b1, b2⟩ := body_raw s l d (i + 1) (fun hm => h (List.mem_append_right _ hm))
    rw [p1]
    refine ⟨by rw [b1, List.range'_succ, List.map_cons]; rfl, ?_⟩
    intro x hx
    rcases List.mem_append.1 hx with h1 | h1
    · rw [List.mem_singleton.1 h1]; exact p2
    · exact b2 x h1

theorem tail_body (s : ByteArray) (l : List Int) (i d : Nat) : tail s l i d = body s l i d ++ [34] := rfl

/-- unquote at what quoted gives: the text itself. -/
theorem unq_text (s : ByteArray) (l : List Int) (hs : s.size ≤ 60) (w : World) :
    Calls Tryz.prog 178 #[.string (ba (34 :: tail s l 0 s.size)), .bool true] w fun e w' => e = .returned (.tuple #[.string s, .string ByteArray.empty, .nilIface]) ∧ Below w.heap.size w w' := by
  have hin := body_in s l 0 s.size
  have hlen := tail_len s l s.size 0
  have htb := tail_body s l 0 s.size
  have hrd := tail_reads s l s.size 0 hs
  have hraw := body_raw s l s.size 0
  obtain ⟨B, hB⟩ : ∃ B, body s l 0 s.size = B := ⟨_, rfl⟩
  rw [hB] at hin htb hraw
  rw [htb] at hlen hrd ⊢
  have hn : (ba (34 :: (B ++ [34]))).size = B.length + 2 := by rw [ba_size]; simp
  have hm : B.length ≤ 1000 := by simp at hlen; omega
  have h0 : (ba (34 :: (B ++ [34])))[0].toNat = 34 := by rw [ba_get _ 0 (by omega) (by simp)]; rfl
  have e1 : (ba (34 :: (B ++ [34]))).extract 1 (B.length + 2) = ba (B ++ [34]) := by rw [ba_drop _ 1 _ (by simp)]; rfl
  have c34 : (34 : Int).toNat.toUInt8 = (34 : Nat).toUInt8 := rfl
  have hB256 : ∀ x ∈ B, x < 256 := fun x hx => by have := hin x hx; omega
  have hi : Lib.indexByte ((ba (34 :: (B ++ [34]))).extract 1 (B.length + 2)).data.toList (34 : Int).toNat.toUInt8 = (B.length : Int) := by
    rw [e1, c34]
    have : (ba (B ++ [34])).data.toList = B.map (fun x : Nat => x.toUInt8) ++ [(34 : Nat).toUInt8] := by simp [ba]
    rw [this, index_end _ _ (fun hm => (hin 34 ((mem_u8 B 34 (by omega) hB256).1 hm)).2 rfl)]
    simp
  have hQ256 : ∀ x ∈ (34 :: (B ++ [34])), x < 256 := by
    intro x hx
    rcases List.mem_cons.1 hx with h | h
    · omega
    · rcases List.mem_append.1 h with h | h
      · exact hB256 x h
      · have := List.mem_singleton.1 h; omega
  have hQ : (ba (34 :: (B ++ [34]))).data.toList = (34 :: (B ++ [34])).map (fun x : Nat => x.toUInt8) := by simp [ba]
  by_cases h92 : 92 ∈ B
  · have hq : Lib.indexByte (ba (34 :: (B ++ [34]))).data.toList (92 : Int).toNat.toUInt8 ≠ -1 := by
      rw [hQ]
      exact index_pos _ _ ((mem_u8 _ 92 (by omega) hQ256).2 (List.mem_cons_of_mem _ (List.mem_append_left _ h92)))
    have := unq_pieces (ba (34 :: (B ++ [34]))) B.length hn hm w h0 hi _ (by simpa using hq) rfl ((List.range' 0 s.size).map (byteAt s)) (by simp; omega) (by rw [e1]; exact hrd)
    rw [show (⟨(((List.range' 0 s.size).map (byteAt s)).map (·.toUInt8)).toArray⟩ : ByteArray) = s from s_eq s] at this
    exact this
  · obtain ⟨b1, b2⟩ := hraw h92
    have hnot : ∀ c : Nat, c < 256 → c ≠ 34 → c ∉ B → Lib.indexByte (ba (34 :: (B ++ [34]))).data.toList c.toUInt8 = -1 := by
      intro c hc hc34 hcB
      rw [hQ]
      refine index_neg _ _ fun hm => ?_
      have := (mem_u8 _ c hc hQ256).1 hm
      rcases List.mem_cons.1 this with h | h
      · omega
      · rcases List.mem_append.1 h with h | h
        · exact hcB h
        · have := List.mem_singleton.1 h; omega
    have e2 : (ba (34 :: (B ++ [34]))).extract 1 (B.length + 1) = ba B := by
      apply ByteArray.ext
      apply Array.toList_inj.1
      simp [ba]
    have hsB : ba B = s := by rw [b1]; exact s_eq s
    have hBl : B.length = s.size := by rw [← hsB, ba_size]
    have hv : VA ((ba (34 :: (B ++ [34]))).extract 1 (B.length + 1)) := by
      rw [e2]
      intro w'
      refine valid_asc (ba B) (by rw [ba_size]; omega) (fun i h => ?_) w'
      have hb : i < B.length := by rw [ba_size] at h; exact h
      rw [ba_get _ _ h hb]
      have := hin B[i] (List.getElem_mem _)
      omega
    have := unq_raw (ba (34 :: (B ++ [34]))) B.length hn hm w h0 hi (hnot 92 (by omega) (by omega) h92) (hnot 10 (by omega) (by omega) (fun h10 => by have := b2 10 h10; omega)) hv
    rw [e2, hsB] at this
    exact this

end Tq
end Go.Proofs.YtdpnoaaeplgdjaaGreatDoor
