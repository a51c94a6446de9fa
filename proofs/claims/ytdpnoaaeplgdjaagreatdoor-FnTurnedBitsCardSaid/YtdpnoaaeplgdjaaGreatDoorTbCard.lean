/-
  PROVED: the card of FnTurnedBits: all bits of an integer of at most 10 words turned, with a number of bits (at most 300) that are kept, or with none, are what the specification says (the law says nothing of more words or bits); the call returns true and its arguments read as before.
  Conditions: the four package variables that the row lists are laid as the program's text lays them (the card ties them); the repository beside the seat is pruned.
-/
import Derived.Test.YtdpnoaaeplgdjaaGreatDoorRows
import Derived.Test.YtdpnoaaeplgdjaaGreatDoorCards
import Derived.Test.YtdpnoaaeplgdjaaGreatDoorTie
import Derived.Test.YtdpnoaaeplgdjaaGreatDoorLw
import Derived.Test.YtdpnoaaeplgdjaaGreatDoorTbFacts
import Derived.ProofKit
import Derived.OpenVars
import Derived.LaidMore
import Derived.OpenShut
import Derived.ChangeSlices
import Derived.ChangeMaps5
import Derived.Carry
import Derived.Lib.SmallJoins
import Derived.Stop.Joined
import Derived.SevenTiedAt
namespace Go.Proofs.YtdpnoaaeplgdjaaGreatDoor
open Go.ChangeShapes Go.WideShapes Go.ChangeAt Go.RowKit Go.Joins Go.Proofs.YtdpnoaaeplgdjaaGreatDoorW.PrintWords
namespace Tb

theorem own : ownKnob Tryz.prog.godebug = none := by kernel_rfl
theorem laidOut : laidOutB Tryz.prog = true := by kernel_rfl
theorem cells43 : Tryz.prog.cellsOf 43 = 1 := by kernel_rfl
theorem cells24 : Tryz.prog.cellsOf 24 = 2 := by kernel_rfl

/-- An argument's words, as the walk asks for them. -/
theorem words_of {H : Type} {enc : TypeId × Value → H} (W : World) (v : Value) (m : Nat) (y : DataW H × List MemPlace) (h1 : DataW.trod enc Tryz.prog W 0 (fun _ => true) true m 22 [v] = some y) :
    ∃ (A : Option Addr) (c : Nat) (l : List Int), v = .slice A l.length c ∧ l.length ≤ c ∧ Kd.C (Kd.int .u64) W A l.length l ∧ ∀ x ∈ l, 0 ≤ x ∧ x < 18446744073709551616 := by
  rcases open_ints Tryz.underlying22 Tryz.underlying43 cells43 h1 with ⟨hcs, hx⟩ | ⟨a, len', cap', zs, hcs, _, hl, hm, hz, hx, hcell, hwz⟩
  · injection hcs with hcs _
    exact ⟨none, 0, [], hcs, Nat.le_refl _, Kd.C_nil _ _, fun x hx => absurd hx List.not_mem_nil⟩
  · injection hcs with hcs _
    simp only [if_true] at hz
    have hlen : (zs.take len').length = len' := by rw [List.length_take]; omega
    refine ⟨some a, cap', zs.take len', by rw [hlen]; exact hcs, by omega, ⟨rfl, by unfold maxLen at hm; omega, fun _ => ⟨a, rfl, fun j p hj => ⟨[.int .u64 p], rfl, rfl, fun i u hi => ?_⟩⟩⟩, fun x hx => ?_⟩
    · match i, hi with
      | 0, hi =>
        have hu : Value.int .u64 p = u := by simpa using hi
        subst hu
        have hjl : j < (zs.take len').length := (List.getElem?_eq_some_iff.1 hj).1
        have hjz : j < zs.length := by rw [List.length_take] at hjl; omega
        have := hcell j hjz
        have hp : zs.getD j 0 = p := by
          have h3 := (List.getElem?_eq_some_iff.1 hj).2
          rw [List.getElem_take] at h3
          simp [List.getD, hjz, h3]
        rw [hp] at this
        simpa [Kd.int, Kd.scalar] using this
      | i + 1, hi => simp at hi
    · have := hwz x (List.mem_of_mem_take hx)
      have h2 : (decide ((0 : Int) ≤ x) && decide (x ≤ 18446744073709551615)) = true := this
      rw [Bool.and_eq_true, decide_eq_true_eq, decide_eq_true_eq] at h2
      omega

theorem door_met (os : Os) (args : Array Value) : laidMetH Tryz.prog Rows.fnTurnedBitsRow.laid ((World.doorLaid Tryz.prog 150 os).forCall (fun _ _ => 0) ⟨#[], args, []⟩).memory :=
  laidMetH_of_parts3 (fuel := 8) (laidMet_of_run' 8 (by kernel_rfl) (by kernel_rfl)) (by kernel_rfl) (by kernel_rfl)

set_option maxRecDepth 100000 in
theorem lifted (os : Os) (started : os.Started) (H : Type) (enc : TypeId × Value → H) :
    ReturnsInHanded {} Tryz.checked os 3 .any (fun w args => (Rows.fnTurnedBitsSpec.pre enc Tryz.prog Tryz.f3 [] false w args ∧ laidMetH Tryz.prog Rows.fnTurnedBitsRow.laid w) ∧ sizedMet enc Tryz.prog Tryz.f3 (OpenSpec.ofChange Rows.fnTurnedBitsSpec) false w args)
      (Rows.fnTurnedBitsSpec.post enc Tryz.prog Tryz.f3 false true false false) := by
  refine returnsInHanded_of_change_and (C := Tryz.checked) (X := fun w _ => laidMetH Tryz.prog Rows.fnTurnedBitsRow.laid w) (fun _ _ _ hh h => h.of_heap hh) own started (by kernel_rfl) Tryz.func3
    (ChangeSpec.witness_shaped (enc := enc) (C := Tryz.checked) (os := os) (X := fun w _ => laidMetH Tryz.prog Rows.fnTurnedBitsRow.laid w) false (World.doorLaid Tryz.prog 150 os) #[.agg #[.bool false, .slice none 0 0], .int .u16 0] 8 rfl (World.shaped_of_RefB (by kernel_rfl) (by kernel_rfl)) (by kernel_rfl) (by kernel_rfl) (by kernel_rfl) (door_met os _)) ?_
  intro W base args ds gs before hval0 hW _ _ _ _
  have hval : ∀ (j : Nat) t v, Tryz.f3.params[j]? = some t → args[j]? = some v → Value.okWide Tryz.prog W .any base t v := hval0
  have hW' := hW
  obtain ⟨p, q, hA0, hV, rfl, _, _⟩ := hW
  have hA : DataW.TrodAll enc Tryz.prog W 0 (fun _ => true) true Tryz.f3.params.toList args.toList ds p := hA0
  rw [Tryz.params3] at hA hval
  obtain ⟨v0, v1, d0, d1, p0, p1, rfl, rfl, rfl, h0, h1⟩ := trodAll_two hA
  have h0k := h0
  have hlt : ∀ x ∈ p0, x.block < W.heap.size := fun x hx => by simpa using hW'.lt x (by simp [hx])
  have hargs : ∀ (W' : World), Below W.heap.size W W' → DataW.Trod enc Tryz.prog W' 0 (fun b => decide (b < W.heap.size)) true 24 v0 d0 p0 :=
    fun W' hn => Below.trod laidOut (by kernel_rfl) (of_decide_eq_true (by kernel_rfl)) h0k hn hlt
  obtain ⟨b, rfl, rfl, rfl, hwf⟩ := open_int Tryz.underlying25 (hval 1 25 v1 rfl rfl) h1
  obtain ⟨c0, c1, y0, y1, m, rfl, _, _, hy0, hy1⟩ := open_agg2 Tryz.underlying24 (by kernel_rfl) cells24 (hval 0 24 v0 rfl rfl) h0
  obtain ⟨neg, rfl⟩ : ∃ neg, c0 = .bool neg := by
    obtain ⟨x, e0, _⟩ := DataW.trod_bool Tryz.underlying4 hy0
    injection e0 with e0 _
    exact ⟨x, e0⟩
  obtain ⟨A, c, l, rfl, hcap, hC, hl⟩ := words_of W c1 m y1 hy1
  have hb0 : 0 ≤ b := by
    have h2 : (decide ((0 : Int) ≤ b) && decide (b ≤ 65535)) = true := hwf
    rw [Bool.and_eq_true, decide_eq_true_eq, decide_eq_true_eq] at h2
    exact h2.1
  match gs, hV with
  | [g1, g2, g3, g4], hV =>
    refine (law_true neg A c l b W hC hcap hl hb0).mono fun e W' ⟨he, hb⟩ => ?_
    subst he
    exact ⟨_, rfl, _, _, _, [], _, q, hW', trodAll_mk1 (shut_bool Tryz.underlying4 _), trodAll_mk2 (hargs _ hb) (shut_int Tryz.underlying25 hwf), hb.trodVars laidOut (by kernel_rfl) hV, hb.frame _, fun h => by cases h⟩

theorem named3 : Tryz.prog.funcNamed "loop.example/pub-g03250/laws.FnTurnedBits" = some 3 := by kernel_rfl
theorem inst3 : Tryz.f3.isInstance Tryz.prog Rows.fnTurnedBitsRow.origin Rows.fnTurnedBitsRow.targs := of_decide_eq_true (by kernel_rfl)
theorem wrap3 : Tryz.f3.isWrapper Tryz.prog Rows.fnTurnedBitsRow.wrapper Rows.fnTurnedBitsRow.mainSum := by
  unfold Func.isWrapper
  first | (rw [if_pos (by decide +kernel)]; kernel_rfl) | (rw [if_neg (by decide +kernel)]; exact ⟨rfl, rfl⟩)

theorem row_holds : Rows.FnTurnedBitsSaid :=
  OpenClaim.holds_of_wide 3 Tryz.f3 rfl rfl rfl rfl rfl rfl rfl ⟨rfl, rfl, rfl, rfl, rfl⟩ rfl rfl rfl rfl rfl named3 Tryz.func3 closed inst3 wrap3
    (fun os started H enc _ => lifted os started H enc)

theorem text3 : Rows.fnTurnedBitsRow.wfByText (OpenSpec.ofChange Rows.fnTurnedBitsSpec) = true := by kernel_rfl
theorem main3 : Tryz.prog.mainIs = some (true, "8f3292d332c59fd6c3cd4a8c27747bb5afd2372c56d282b19e720b45784fe8fc".toList) := by kernel_rfl
theorem looks3 : true = Tryz.prog.looks [] := by kernel_rfl
theorem stand3 : ([24, 25].all fun u => !Tryz.prog.wantsStandIn u) = true := by kernel_rfl
theorem goes3 : false = Rows.fnTurnedBitsRow.goesBy Tryz.prog := by kernel_rfl

theorem card_holds : Rows.FnTurnedBitsCardSaid :=
  Claim7.holds_tied_plain_at .later [] [.data, .data, .data, .data] true (true, "8f3292d332c59fd6c3cd4a8c27747bb5afd2372c56d282b19e720b45784fe8fc") true
    row_holds (fun _ h => by cases h) text3 (fun _ h => by cases h) fnTurnedBits_row_tie rfl ⟨rfl, rfl⟩ main3 rfl
    (fun f fn hf hfn => by
      obtain rfl : f = 3 := Option.some.inj (named3.symm.trans hf) |>.symm
      obtain rfl : fn = Tryz.f3 := (Option.some.inj (Tryz.func3.symm.trans hfn)).symm
      exact ⟨looks3, fun j t ht => by
        rw [Tryz.params3] at ht
        have hm : t ∈ [24, 25] := by simpa using Array.mem_of_getElem? ht
        exact (show Tryz.prog.wantsStandIn t = false by simpa using List.all_eq_true.1 stand3 t hm)⟩)
    goes3
#print axioms card_holds
end Tb
end Go.Proofs.YtdpnoaaeplgdjaaGreatDoor
