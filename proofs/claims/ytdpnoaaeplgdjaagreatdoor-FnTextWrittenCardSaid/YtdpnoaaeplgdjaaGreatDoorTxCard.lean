/-
  PROVED: the card of FnTextWritten: a text of at most 60 bytes, put down as a literal by whatever escapes, is read back as itself (longer ones: the law says nothing of them); the call returns true and its arguments read as before.
  Conditions: the fifteen package variables that the row lists are laid as the program's text lays them (the card ties them); the repository beside the seat is pruned.
-/
import Derived.Test.YtdpnoaaeplgdjaaGreatDoorRows
import Derived.Test.YtdpnoaaeplgdjaaGreatDoorCards
import Derived.Test.YtdpnoaaeplgdjaaGreatDoorTie
import Derived.Test.YtdpnoaaeplgdjaaGreatDoorTw
import Derived.Test.YtdpnoaaeplgdjaaGreatDoorTxFacts
import Derived.ProofKit
import Derived.OpenVars
import Derived.LaidMore
import Derived.Lay
import Derived.OpenShut
import Derived.ChangeSlices
import Derived.ChangeMaps5
import Derived.Carry
import Derived.Stop.Joined
import Derived.SevenTiedAt
namespace Go.Proofs.YtdpnoaaeplgdjaaGreatDoor
open Go.ChangeShapes Go.WideShapes Go.ChangeAt Go.RowKit Go.Proofs.YtdpnoaaeplgdjaaGreatDoorW.PrintWords
namespace Tx

theorem own : ownKnob Tryz.prog.godebug = none := by kernel_rfl
theorem laidOut : laidOutB Tryz.prog = true := by kernel_rfl

theorem cells5 : Tryz.prog.cellsOf 5 = 1 := by kernel_rfl

/-- An argument of bytes, as the walk asks for it. -/
theorem bytes_of {H : Type} {enc : TypeId × Value → H} (W : World) (a0 : Option Addr) (len cap : Nat) (d1 : DataW H) (p1 : List MemPlace)
    (h1 : DataW.Trod enc Tryz.prog W 0 (fun _ => true) true 48 (.slice a0 len cap) d1 p1) :
    ∃ l1 : List Int, l1.length = len ∧ l1.length ≤ cap ∧ Kd.C (Kd.int .u8) W a0 l1.length l1 ∧ ∀ x ∈ l1, 0 ≤ x ∧ x < 256 := by
  obtain ⟨fuel, hf⟩ := h1
  rcases open_ints Tryz.underlying48 Tryz.underlying5 cells5 hf with ⟨hcs, hx⟩ | ⟨a, len', cap', zs, hcs, _, hl, hm, hz, hx, hcell, hwz⟩
  · simp [Value.cells] at hcs
    obtain ⟨rfl, rfl, rfl⟩ := hcs
    exact ⟨[], rfl, by simp, Kd.C_nil _ _, fun x hx => absurd hx List.not_mem_nil⟩
  · simp [Value.cells] at hcs
    obtain ⟨rfl, rfl, rfl⟩ := hcs
    simp only [if_true] at hz
    have hlen : (zs.take len).length = len := by rw [List.length_take]; omega
    refine ⟨zs.take len, hlen, by omega, ⟨rfl, by unfold maxLen at hm; omega, fun _ => ⟨a, rfl, fun j p hj => ⟨[.int .u8 p], rfl, rfl, fun i u hi => ?_⟩⟩⟩, fun x hx => ?_⟩
    · match i, hi with
      | 0, hi =>
        have hu : Value.int .u8 p = u := by simpa using hi
        subst hu
        have hjl : j < (zs.take len).length := (List.getElem?_eq_some_iff.1 hj).1
        have hjz : j < zs.length := by rw [List.length_take] at hjl; omega
        have := hcell j hjz
        have hp : zs.getD j 0 = p := by
          have h3 := (List.getElem?_eq_some_iff.1 hj).2
          rw [List.getElem_take] at h3
          simp [List.getD, hjz, h3]
        rw [hp] at this
        simpa [Kd.int, Kd.scalar] using this
      | i + 1, hi => simp at hi
    · have := hwz x (List.mem_of_mem_take hx)
      have h2 : (decide ((0 : Int) ≤ x) && decide (x ≤ 255)) = true := this
      rw [Bool.and_eq_true, decide_eq_true_eq, decide_eq_true_eq] at h2
      omega

set_option maxRecDepth 100000 in
theorem lifted (os : Os) (started : os.Started) (H : Type) (enc : TypeId × Value → H) :
    ReturnsInHanded {} Tryz.checked os 5 .any (fun w args => (Rows.fnTextWrittenSpec.pre enc Tryz.prog Tryz.f5 [] false w args ∧ laidMetH Tryz.prog Rows.fnTextWrittenRow.laid w) ∧ sizedMet enc Tryz.prog Tryz.f5 (OpenSpec.ofChange Rows.fnTextWrittenSpec) false w args)
      (Rows.fnTextWrittenSpec.post enc Tryz.prog Tryz.f5 false true false false) := by
  refine returnsInHanded_of_change_and (C := Tryz.checked) (X := fun w _ => laidMetH Tryz.prog Rows.fnTextWrittenRow.laid w) (fun _ _ _ hh h => h.of_heap hh) own started (by kernel_rfl) Tryz.func5
    (ChangeSpec.witness_shaped (enc := enc) (C := Tryz.checked) (os := os) (X := fun w _ => laidMetH Tryz.prog Rows.fnTextWrittenRow.laid w) false (World.laidAll Tryz.prog os Rows.fnTextWrittenRow.laid) #[.string ⟨#[]⟩, .slice none 0 0] 8 (World.laidAll_os _ _ _)
      (World.shaped_of_ZipB (by kernel_rfl) (by kernel_rfl)) (by kernel_rfl) (by kernel_rfl) (by kernel_rfl)
      (by rw [MakeChecks.laidMetH_plain _ _ _ (by kernel_rfl)]; exact laidMet_laidAll _ (by kernel_rfl) (by kernel_rfl))) ?_
  intro W base args ds gs before hval0 hW _ _ _ _
  have hval : ∀ (j : Nat) t v, Tryz.f5.params[j]? = some t → args[j]? = some v → Value.okWide Tryz.prog W .any base t v := hval0
  have hW' := hW
  obtain ⟨p, q, hA0, hV, rfl, _, _⟩ := hW
  have hA : DataW.TrodAll enc Tryz.prog W 0 (fun _ => true) true Tryz.f5.params.toList args.toList ds p := hA0
  rw [Tryz.params5] at hA hval
  obtain ⟨v0, v1, d0, d1, p0, p1, rfl, rfl, rfl, h0, h1⟩ := trodAll_two hA
  obtain ⟨s, rfl, rfl, rfl, hsm⟩ := Go.ChangeMaps.open_string Tryz.underlying9 (hval 0 9 v0 rfl rfl) h0
  have h1k := h1
  have hlt : ∀ x ∈ p1, x.block < W.heap.size := fun x hx => by simpa using hW'.lt x (by simp [hx])
  have hargs : ∀ (W' : World), Below W.heap.size W W' → DataW.Trod enc Tryz.prog W' 0 (fun b => decide (b < W.heap.size)) true 48 v1 d1 p1 :=
    fun W' hn => Below.trod laidOut (by kernel_rfl) (of_decide_eq_true (by kernel_rfl)) h1k hn hlt
  obtain ⟨a0, len, cap, rfl⟩ := okWide_slice Tryz.underlying48 (hval 1 48 v1 rfl rfl)
  obtain ⟨l1, hlen, hcap, hC, hl⟩ := bytes_of W a0 len cap d1 p1 h1
  subst hlen
  match gs, hV with
  | [g1, g2, g3, g4, g5, g6, g7], hV =>
    refine (law_true s a0 cap l1 W hC hcap hl).mono fun e W' ⟨he, hb⟩ => ?_
    subst he
    exact ⟨_, rfl, _, _, _, [], _, q, hW', trodAll_mk1 (shut_bool Tryz.underlying4 _), trodAll_mk2 (Go.ChangeMaps.shut_string Tryz.underlying9 hsm) (hargs _ hb), hb.trodVars laidOut (by kernel_rfl) hV, hb.frame _, fun h => by cases h⟩

theorem named5 : Tryz.prog.funcNamed "loop.example/pub-g03250/laws.FnTextWritten" = some 5 := by kernel_rfl
theorem inst5 : Tryz.f5.isInstance Tryz.prog Rows.fnTextWrittenRow.origin Rows.fnTextWrittenRow.targs := of_decide_eq_true (by kernel_rfl)
theorem wrap5 : Tryz.f5.isWrapper Tryz.prog Rows.fnTextWrittenRow.wrapper Rows.fnTextWrittenRow.mainSum := by
  unfold Func.isWrapper
  first | (rw [if_pos (by decide +kernel)]; kernel_rfl) | (rw [if_neg (by decide +kernel)]; exact ⟨rfl, rfl⟩)

theorem row_holds : Rows.FnTextWrittenSaid :=
  OpenClaim.holds_of_wide 5 Tryz.f5 rfl rfl rfl rfl rfl rfl rfl ⟨rfl, rfl, rfl, rfl, rfl⟩ rfl rfl rfl rfl rfl named5 Tryz.func5 closed inst5 wrap5
    (fun os started H enc _ => lifted os started H enc)

theorem text5 : Rows.fnTextWrittenRow.wfByText (OpenSpec.ofChange Rows.fnTextWrittenSpec) = true := by kernel_rfl
theorem main5 : Tryz.prog.mainIs = some (true, "8f3292d332c59fd6c3cd4a8c27747bb5afd2372c56d282b19e720b45784fe8fc".toList) := by kernel_rfl
theorem looks5 : true = Tryz.prog.looks [] := by kernel_rfl
theorem stand5 : ([9, 48].all fun u => !Tryz.prog.wantsStandIn u) = true := by kernel_rfl
theorem goes5 : false = Rows.fnTextWrittenRow.goesBy Tryz.prog := by kernel_rfl

theorem card_holds : Rows.FnTextWrittenCardSaid :=
  Claim7.holds_tied_plain_at .later [] [.data, .data, .data, .data, .sentinel, .sentinel, .sentinel, .data, .sentinel, .sentinel, .data, .data, .data, .data, .pinned] true (true, "8f3292d332c59fd6c3cd4a8c27747bb5afd2372c56d282b19e720b45784fe8fc") true
    row_holds (fun _ h => by cases h) text5 (fun _ h => by cases h) fnTextWritten_row_tie rfl ⟨rfl, rfl⟩ main5 rfl
    (fun f fn hf hfn => by
      obtain rfl : f = 5 := Option.some.inj (named5.symm.trans hf) |>.symm
      obtain rfl : fn = Tryz.f5 := (Option.some.inj (Tryz.func5.symm.trans hfn)).symm
      exact ⟨looks5, fun j t ht => by
        rw [Tryz.params5] at ht
        have hm : t ∈ [9, 48] := by simpa using Array.mem_of_getElem? ht
        exact (show Tryz.prog.wantsStandIn t = false by simpa using List.all_eq_true.1 stand5 t hm)⟩)
    goes5
#print axioms card_holds
end Tx
end Go.Proofs.YtdpnoaaeplgdjaaGreatDoor
