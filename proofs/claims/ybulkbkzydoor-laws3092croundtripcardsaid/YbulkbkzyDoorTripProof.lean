/-
  THE PROOF OF 'Rows.LawS3092CRoundTripCardSaid': the walk's contract (YbulkbkzyDoorTrip.lean) lifted to the row, whose listed variable the law never comes to; then the tied card by the builder's one call (the tie is given: YbulkbkzyDoorTie.lean).
-/
import Derived.Test.YbulkbkzyDoorCards
import Derived.Test.YbulkbkzyDoorTie
import Derived.Test.YbulkbkzyDoorTrip
import Derived.ProofKit
import Derived.OpenShut
import Derived.OpenVars
import Derived.LaidMore
import Derived.Stop.Joined
import Derived.SevenTiedAt
namespace Go.Proofs.YbulkbkzyDoor.lawS3092CRoundTrip
open Go.ChangeShapes Go.WideShapes Go.ChangeAt Go.RowKit
set_option linter.unusedVariables false

theorem own : ownKnob Ybad.prog.godebug = none := by kernel_rfl
theorem laidOut : laidOutB Ybad.prog = true := by kernel_rfl

/-- The door's own heap meets the condition: three closed facts. -/
theorem door_met (os : Os) (args : Array Value) : laidMetH Ybad.prog Rows.lawS3092CRoundTripRow.laid ((World.doorLaid Ybad.prog 400 os).forCall (fun _ _ => 0) ⟨#[], args, []⟩).memory :=
  laidMetH_of_parts3 (fuel := 8) (laidMet_of_run' 8 (by kernel_rfl) (by kernel_rfl)) (by kernel_rfl) (by kernel_rfl)

/-- What the walk is told of the slice of bytes that came in. -/
def IsRow (w : World) (a : Option Addr) (len cap : Nat) (zs : List Int) : Prop :=
  (a = none ∧ len = 0 ∧ cap = 0 ∧ zs = []) ∨
  ∃ x, a = some x ∧ len ≤ cap ∧ cap ≤ maxLen ∧ zs.length = cap ∧ (∀ i, i < zs.length → w.cell? (x.add i) = some (.int .u8 (zs.getD i 0))) ∧ ∀ n ∈ zs, (Lit.int .u8 n).wf = true

theorem walk (a0 a1 : Int) (a2 : Option Addr) (len cap : Nat) (zs : List Int) (w : World) (w0 : (Lit.int .u16 a0).wf = true) (w1 : (Lit.int .u16 a1).wf = true) (w2 : IsRow w a2 len cap zs) :
    Calls Ybad.prog 3 #[.int .u16 a0, .int .u16 a1, .slice a2 len cap] w fun e w' => e = .returned (.bool true) ∧ Below w.heap.size w w' := by
  by_cases hlong : 1024 < len
  · exact trip_long a0 a1 a2 len cap w hlong
  · have b0 := bounds_u16 w0
    have b1 := bounds_u16 w1
    rcases w2 with ⟨rfl, rfl, rfl, _⟩ | ⟨x, rfl, hl, _, hz, hcell, _⟩
    · exact trip_nil a0 a1 b0.1 b0.2 b1.1 b1.2 w
    · exact trip_some a0 a1 b0.1 b0.2 b1.1 b1.2 x len cap zs w (by omega) (by omega) (fun i hi => hcell i (by omega))

set_option maxRecDepth 100000 in
theorem lifted (os : Os) (started : os.Started) (H : Type) (enc : TypeId × Value → H) :
    ReturnsInHanded {} Ybad.checked os 3 .any (fun w args => (Rows.lawS3092CRoundTripSpec.pre enc Ybad.prog Ybad.f3 [] false w args ∧ laidMetH Ybad.prog Rows.lawS3092CRoundTripRow.laid w) ∧ sizedMet enc Ybad.prog Ybad.f3 (OpenSpec.ofChange Rows.lawS3092CRoundTripSpec) false w args)
      (Rows.lawS3092CRoundTripSpec.post enc Ybad.prog Ybad.f3 false true false false) := by
  refine returnsInHanded_of_change_and (C := Ybad.checked) (X := fun w _ => laidMetH Ybad.prog Rows.lawS3092CRoundTripRow.laid w) (fun _ _ _ hh h => h.of_heap hh) own started (by kernel_rfl) Ybad.func3
    (ChangeSpec.witness_shaped (enc := enc) (C := Ybad.checked) (os := os) (X := fun w _ => laidMetH Ybad.prog Rows.lawS3092CRoundTripRow.laid w) false (World.doorLaid Ybad.prog 400 os) #[.int .u16 0, .int .u16 0, .slice none 0 0] 8 rfl (World.shaped_of_RefB (by kernel_rfl) (by kernel_rfl)) (by kernel_rfl) (by kernel_rfl) (by kernel_rfl) (door_met os _)) ?_
  intro W base args ds gs before hval0 hW _ _ hL _
  have hval : ∀ (j : Nat) t v, Ybad.f3.params[j]? = some t → args[j]? = some v → Value.okWide Ybad.prog W .any base t v := hval0
  have hW' := hW
  obtain ⟨p, q, hA0, hV, rfl, hfz, hnd⟩ := hW
  have hA : DataW.TrodAll enc Ybad.prog W 0 (fun _ => true) true Ybad.f3.params.toList args.toList ds p := hA0
  rw [Ybad.params3] at hA hval
  obtain ⟨v0, v1, v2, d0, d1, d2, p0, p1, p2, rfl, rfl, rfl, h0, h1, h2⟩ := trodAll_three hA
  obtain ⟨a0, rfl, rfl, rfl, w0⟩ := open_int Ybad.underlying22 (hval 0 22 v0 rfl rfl) h0
  obtain ⟨a1, rfl, rfl, rfl, w1⟩ := open_int Ybad.underlying22 (hval 1 22 v1 rfl rfl) h1
  obtain ⟨a2, len, cap, rfl⟩ := okWide_slice Ybad.underlying23 (hval 2 23 v2 rfl rfl)
  have k2 := h2
  have lt2 : ∀ x ∈ p2, x.block < W.heap.size := by obtain ⟨m, hm⟩ := k2; exact DataW.trod_lt m _ _ _ hm
  obtain ⟨zs, w2⟩ : ∃ zs, IsRow W a2 len cap zs := by
    obtain ⟨fuel, hf⟩ := h2
    rcases open_ints Ybad.underlying23 Ybad.underlying5 (by kernel_rfl) hf with ⟨hcs, _⟩ | ⟨x, l, c, zs, hcs, _, hl, hm, hz, _, hcell, hwz⟩
    · simp [Value.cells] at hcs
      obtain ⟨rfl, rfl, rfl⟩ := hcs
      exact ⟨[], .inl ⟨rfl, rfl, rfl, rfl⟩⟩
    · simp [Value.cells] at hcs
      obtain ⟨rfl, rfl, rfl⟩ := hcs
      exact ⟨zs, .inr ⟨_, rfl, hl, hm, by simpa using hz, hcell, hwz⟩⟩
  obtain ⟨g1, rfl⟩ : ∃ g1, gs = [g1] := by
    match gs, hV with
    | [], hV => exact hV.elim
    | [g1], _ => exact ⟨g1, rfl⟩
    | _ :: _ :: _, hV => obtain ⟨_, _, _, _, _, _, _, _, _, _, hV, _⟩ := hV; exact hV.elim
  clear hA0 hval0
  refine (walk a0 a1 a2 len cap zs W w0 w1 w2).mono fun e W' ⟨he, bel⟩ => ?_
  subst he
  exact ⟨_, rfl, _, _, _, [], _, _, hW', trodAll_mk1 (shut_bool Ybad.underlying4 _), trodAll_mk3 (shut_int Ybad.underlying22 w0) (shut_int Ybad.underlying22 w1) (Below.trod laidOut (by kernel_rfl) (of_decide_eq_true (by kernel_rfl)) k2 bel lt2), Below.trodVars laidOut bel (by kernel_rfl) hV, bel.frame _, fun h => by cases h⟩

theorem row_holds : Rows.LawS3092CRoundTripSaid :=
  OpenClaim.holds_of_wide 3 Ybad.f3 rfl rfl rfl rfl rfl rfl rfl ⟨rfl, rfl, rfl, rfl, rfl⟩ rfl rfl rfl rfl rfl (by kernel_rfl) Ybad.func3 (by kernel_rfl)
    (of_decide_eq_true (by kernel_rfl)) (by unfold Func.isWrapper; first | (rw [if_pos (by decide +kernel)]; kernel_rfl) | (rw [if_neg (by decide +kernel)]; exact ⟨rfl, rfl⟩))
    (fun os started H enc _ => lifted os started H enc)

/-- ████ THE STATEMENT ████ -/
theorem proved : Rows.LawS3092CRoundTripCardSaid :=
  Claim7.holds_tied_plain_at .later [] [.sentinel] true Rows.lawS3092CRoundTripCard.stood.harness false
    row_holds (fun _ h => by cases h) (by kernel_rfl) (fun _ h => by cases h) lawS3092CRoundTrip_row_tie rfl ⟨rfl, rfl⟩ (by kernel_rfl) rfl
    (fun f fn hf hfn => by
      obtain rfl : f = 3 := Option.some.inj ((show Ybad.prog.funcNamed Rows.lawS3092CRoundTripRow.func = some 3 by kernel_rfl).symm.trans hf) |>.symm
      obtain rfl : fn = Ybad.f3 := (Option.some.inj (Ybad.func3.symm.trans hfn)).symm
      exact ⟨by kernel_rfl, fun j t ht => by
        rw [Ybad.params3] at ht
        have hm : t ∈ [22, 22, 23] := by simpa using Array.mem_of_getElem? ht
        have hall : ([22, 22, 23].all fun u => !Ybad.prog.wantsStandIn u) = true := by kernel_rfl
        exact (show Ybad.prog.wantsStandIn t = false by simpa using List.all_eq_true.1 hall t hm)⟩)
    (by kernel_rfl)
#print axioms proved
end Go.Proofs.YbulkbkzyDoor.lawS3092CRoundTrip
