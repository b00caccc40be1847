/-
  The row and the tied card of FnParseDecimalMatchesDigitModel, after the guide's MapyProofs.lean, MapyCard.lean, MaAllProofs.lean, turned to this program.
-/
import Derived.Test.Qxb6601801aDoorMatches
import Derived.Test.Qxb6601801aDoorTie
import Derived.Test.Qxb6601801aDoorCards
import Derived.ProofKit
import Derived.LaidMore
import Derived.OpenShut
import Derived.ShutString
import Derived.Stop.Joined
import Derived.Stop.LaidErr
import Derived.SevenTiedAt
namespace Go.Proofs.Qxb6601801aDoor
open Go.ChangeShapes Go.WideShapes Go.ChangeAt Go.WideMaps Go.WideElems Go.RowKit
open Go.ChangeMaps (open_string shut_string)

theorem own : ownKnob Tryd.prog.godebug = none := by kernel_rfl
theorem gSyn : Tryd.prog.globalNamed "strconv.ErrSyntax" = some 0 := by kernel_rfl
theorem gRng : Tryd.prog.globalNamed "strconv.ErrRange" = some 1 := by kernel_rfl
theorem gSynType : (Tryd.prog.globals[0]?).map (·.type) = some 34 := by kernel_rfl
theorem gRngType : (Tryd.prog.globals[1]?).map (·.type) = some 34 := by kernel_rfl
theorem cells53 : Tryd.prog.cellsOf 53 = 1 := by kernel_rfl
theorem cells9 : Tryd.prog.cellsOf 9 = 1 := by kernel_rfl

/-- What the condition gives the walk: both sentinels' variables. -/
theorem of_laid {W : World} (h : laidMetH Tryd.prog Rows.fnParseDecimalMatchesDigitModelRow.laid W) : ∃ p0 p1, W.var? Tryd.prog "strconv.ErrSyntax" = some #[.iface 51 p0] ∧ W.var? Tryd.prog "strconv.ErrRange" = some #[.iface 51 p1] := by
  rw [MakeChecks.laidMetH_plain _ _ _ (by kernel_rfl)] at h
  have hR := laidMet.tail (laidMet.tail (laidMet.tail h))
  obtain ⟨a1, s1, hv1, _, _, _⟩ := laid_sentinel hR gRng gRngType Tryd.underlying34 (fun u hu => typeName_ptr_named (nm := "errors.errorString") (by kernel_rfl) (by kernel_rfl) (by decide) u (hu.trans (congrArg some (by decide)))) Tryd.underlying51 Tryd.underlying53 rfl rfl Tryd.underlying9 cells53 cells9
  obtain ⟨a0, s0, hv0, _, _, _⟩ := laid_sentinel (laidMet.tail hR) gSyn gSynType Tryd.underlying34 (fun u hu => typeName_ptr_named (nm := "errors.errorString") (by kernel_rfl) (by kernel_rfl) (by decide) u (hu.trans (congrArg some (by decide)))) Tryd.underlying51 Tryd.underlying53 rfl rfl Tryd.underlying9 cells53 cells9
  exact ⟨_, _, hv0, hv1⟩

/-- The door's own heap meets the condition: three closed facts. -/
theorem door_met (os : Os) (args : Array Value) : laidMetH Tryd.prog Rows.fnParseDecimalMatchesDigitModelRow.laid ((World.doorLaid Tryd.prog 62 os).forCall (fun _ _ => 0) ⟨#[], args, []⟩).memory :=
  laidMetH_of_parts3 (fuel := 8) (laidMet_of_run' 8 (by kernel_rfl) (by kernel_rfl)) (by kernel_rfl) (by kernel_rfl)

set_option maxRecDepth 100000 in
theorem matches_lifted (os : Os) (started : os.Started) (H : Type) (enc : TypeId × Value → H) :
    ReturnsInHanded {} Tryd.checked os 3 .any (fun w args => (Rows.fnParseDecimalMatchesDigitModelSpec.pre enc Tryd.prog Tryd.f3 [] false w args ∧ laidMetH Tryd.prog Rows.fnParseDecimalMatchesDigitModelRow.laid w) ∧ sizedMet enc Tryd.prog Tryd.f3 (OpenSpec.ofChange Rows.fnParseDecimalMatchesDigitModelSpec) false w args)
      (Rows.fnParseDecimalMatchesDigitModelSpec.post enc Tryd.prog Tryd.f3 false true false false) := by
  refine returnsInHanded_of_change_and (C := Tryd.checked) (X := fun w _ => laidMetH Tryd.prog Rows.fnParseDecimalMatchesDigitModelRow.laid w) (fun _ _ _ hh h => h.of_heap hh) own started (by kernel_rfl) Tryd.func3
    (ChangeSpec.witness_shaped (enc := enc) (C := Tryd.checked) (os := os) (X := fun w _ => laidMetH Tryd.prog Rows.fnParseDecimalMatchesDigitModelRow.laid w) false (World.doorLaid Tryd.prog 62 os) #[.string ByteArray.empty] 8 rfl (World.shaped_of_RefB (by kernel_rfl) (by kernel_rfl)) (by kernel_rfl) (by kernel_rfl) (by kernel_rfl) (door_met os _)) ?_
  intro W base args ds gs before hval0 hW _ _ hL _
  have hval : ∀ (j : Nat) t v, Tryd.f3.params[j]? = some t → args[j]? = some v → Value.okWide Tryd.prog W .any base t v := hval0
  have hW' := hW
  obtain ⟨p, q, hA0, hV, rfl, hfz, hnd⟩ := hW
  have hA : DataW.TrodAll enc Tryd.prog W 0 (fun _ => true) true Tryd.f3.params.toList args.toList ds p := hA0
  rw [Tryd.params3] at hA hval
  obtain ⟨v0, d0, rfl, rfl, h0⟩ := trodAll_one hA
  obtain ⟨rfl, rfl⟩ := trodVars_none hV
  obtain ⟨s, rfl, rfl, rfl, ws⟩ := open_string Tryd.underlying9 (hval 0 9 v0 rfl rfl) h0
  clear hA0 hval0
  simp only [List.append_nil] at hW'
  obtain ⟨p0, p1, hv0, hv1⟩ := of_laid hL
  refine (matches_walk s (by unfold maxLen at ws; omega) 51 51 p0 p1 W hv0 hv1).mono fun e W' ⟨he, hb⟩ => ?_
  subst he
  refine ⟨_, rfl, _, _, _, [], [], [], hW', ?_, ?_, rfl, hb.frame _, fun h => by cases h⟩
  · exact trodAll_mk1 (shut_bool Tryd.underlying4 _)
  · exact trodAll_mk1 (shut_string Tryd.underlying9 ws)

theorem matches_holds : Rows.FnParseDecimalMatchesDigitModelSaid :=
  OpenClaim.holds_of_wide 3 Tryd.f3 rfl rfl rfl rfl rfl rfl rfl ⟨rfl, rfl, rfl, rfl, rfl⟩ rfl rfl rfl rfl rfl (by kernel_rfl) Tryd.func3 (by kernel_rfl)
    (of_decide_eq_true (by kernel_rfl)) (by unfold Func.isWrapper; first | (rw [if_pos (by decide +kernel)]; kernel_rfl) | (rw [if_neg (by decide +kernel)]; exact ⟨rfl, rfl⟩))
    (fun os started H enc _ => matches_lifted os started H enc)

/-- ████ THE TIED CARD ████ -/
theorem matches_card : Rows.FnParseDecimalMatchesDigitModelCardSaid :=
  Claim7.holds_tied_plain_at .later [] [.data, .data, .data, .sentinel, .sentinel] true (true, "62c03b8fd88c38d2886af6153aae81ad7a23f5cfd1f7c9deac24e5dbd04ec961") true
    matches_holds (fun _ h => by cases h) (by kernel_rfl) (fun _ h => by cases h) fnParseDecimalMatchesDigitModel_row_tie rfl ⟨rfl, rfl⟩ (by kernel_rfl) rfl
    (fun f fn hf hfn => by
      obtain rfl : f = 3 := Option.some.inj ((show Tryd.prog.funcNamed Tryd.f3.name = some 3 by kernel_rfl).symm.trans hf) |>.symm
      obtain rfl : fn = Tryd.f3 := (Option.some.inj (Tryd.func3.symm.trans hfn)).symm
      exact ⟨by kernel_rfl, fun j t ht => by
        rw [Tryd.params3] at ht
        have hm : t ∈ [9] := by simpa using Array.mem_of_getElem? ht
        have hall : ([9].all fun u => !Tryd.prog.wantsStandIn u) = true := by kernel_rfl
        exact (show Tryd.prog.wantsStandIn t = false by simpa using List.all_eq_true.1 hall t hm)⟩)
    (by kernel_rfl)
end Go.Proofs.Qxb6601801aDoor
