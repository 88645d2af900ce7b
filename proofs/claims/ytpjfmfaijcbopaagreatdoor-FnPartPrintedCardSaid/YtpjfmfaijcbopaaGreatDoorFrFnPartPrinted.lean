/- The row and the card of FnPartPrinted. -/
import Derived.Test.YtpjfmfaijcbopaaGreatDoorCards
import Derived.Test.YtpjfmfaijcbopaaGreatDoorTie
import Derived.Test.YtpjfmfaijcbopaaGreatDoorFacts
import Derived.Test.YtpjfmfaijcbopaaGreatDoorLawPrt
import Derived.Test.YtpjfmfaijcbopaaGreatDoorShelf
import Derived.ProofKit
import Derived.OpenShut
import Derived.LaidMore
import Derived.Lay
import Derived.SevenTiedAt
import Derived.Stop.Joined
import Derived.PinnedBridge
import Derived.Lib.LaidIn
import Derived.Lib.LaidU8T
import Derived.SliceStrings
import Derived.Carry
namespace Go.Proofs.YtpjfmfaijcbopaaGreatDoor
namespace FnPartPrinted
open Go.ChangeShapes Go.WideShapes Go.ChangeAt Go.RowKit Go.Lib


theorem j0 : (Rows.fnPartPrintedRow.wf (OpenSpec.ofChange Rows.fnPartPrintedSpec)) = true := by kernel_rfl
theorem j3 : (Tryz.f6.params.all (Tryz.prog.readableRec ·)) = true := by kernel_rfl
theorem j4 : (namedTie Tryz.prog Rows.fnPartPrintedRow.named Rows.fnPartPrintedSpec.vars) = true := by kernel_rfl
theorem j5 : ((Rows.fnPartPrintedRow.stops == [])) = true := by kernel_rfl
theorem j7 : ((Rows.fnPartPrintedRow.knobs == [])) = true := by kernel_rfl
theorem j9 : ((Rows.fnPartPrintedRow.inPlace == Tryz.prog.inPlace 6)) = true := by kernel_rfl
theorem j10 : ((Rows.fnPartPrintedRow.unfollowed == Tryz.prog.unfollowed 6)) = true := by kernel_rfl
theorem j11 : ((Rows.fnPartPrintedRow.recurses == Tryz.prog.recurses 6)) = true := by kernel_rfl
theorem j12 : ((Rows.fnPartPrintedRow.named == Tryz.prog.varsNamed 6)) = true := by kernel_rfl
theorem j13 : ((Rows.fnPartPrintedRow.maps == (Tryz.f6.params.toList ++ Rows.fnPartPrintedSpec.plain.varTypes Tryz.prog).any (Tryz.prog.mapsRec ·))) = true := by kernel_rfl
theorem j14 : ((Rows.fnPartPrintedRow.ifaces == (Tryz.f6.params.toList ++ Rows.fnPartPrintedSpec.plain.varTypes Tryz.prog).any (Tryz.prog.ifacesRec ·))) = true := by kernel_rfl
theorem j15 : ((Rows.fnPartPrintedRow.mapsOut == Tryz.prog.mapsAmong Tryz.f6.resultTypes.toList)) = true := by kernel_rfl
theorem j16 : ((Rows.fnPartPrintedRow.loops == (Tryz.f6.params.toList ++ Rows.fnPartPrintedSpec.plain.varTypes Tryz.prog).any (Tryz.prog.loopsFrom ·))) = true := by kernel_rfl
theorem j17 : ((Rows.fnPartPrintedRow.wideKeys == (Tryz.f6.params.toList ++ Rows.fnPartPrintedSpec.plain.varTypes Tryz.prog ++ Tryz.f6.resultTypes.toList).any (Tryz.prog.wideKeysFrom ·))) = true := by kernel_rfl
theorem j18 : (Rows.fnPartPrintedSpec.vars.all (Tryz.prog.varReadable ·)) = true := by kernel_rfl
theorem j19 : (Tryz.f6.resultTypes.all (fun t => Tryz.prog.readableRec t && decide (t < Tryz.prog.types.size))) = true := by kernel_rfl
theorem j20 : ((Rows.fnPartPrintedRow.ifacesOut == Tryz.f6.resultTypes.toList.any (Tryz.prog.ifacesRec ·))) = true := by kernel_rfl
theorem j21 : ((Rows.fnPartPrintedRow.loopsOut == Tryz.f6.resultTypes.toList.any (Tryz.prog.loopsFrom ·))) = true := by kernel_rfl
theorem j22 : ((Rows.fnPartPrintedRow.plainKeys == Tryz.prog.plainKeys)) = true := by kernel_rfl
theorem j23 : (Rows.fnPartPrintedRow.shortTexts.isNone) = true := by kernel_rfl
theorem j26 : ((Rows.fnPartPrintedRow.lifted == Tryz.prog.liftsFinal)) = true := by kernel_rfl
theorem j27 : ((Tryz.prog.make == some Rows.fnPartPrintedRow.make)) = true := by kernel_rfl
theorem j29 : ((Rows.fnPartPrintedRow.pinned == Rows.fnPartPrintedRow.pinnedBy)) = true := by kernel_rfl
theorem j30 : ((Rows.fnPartPrintedRow.veiled == (Tryz.f6.params.toList ++ Rows.fnPartPrintedSpec.plain.varTypes Tryz.prog ++ Tryz.f6.resultTypes.toList).any (Tryz.prog.veiledRec ·))) = true := by kernel_rfl
theorem j31 : (Rows.fnPartPrintedRow.veiledFits Tryz.prog Tryz.f6.params.toList (Tryz.f6.params.toList ++ Rows.fnPartPrintedSpec.plain.varTypes Tryz.prog ++ Tryz.f6.resultTypes.toList)) = true := by kernel_rfl
theorem joined : joinedFacts Tryz.prog 6 Tryz.f6 Rows.fnPartPrintedSpec Rows.fnPartPrintedRow = true := by
  unfold joinedFacts
  exact (and_mk (and_mk (and_mk (and_mk (and_mk (and_mk (and_mk (and_mk (and_mk (and_mk (and_mk (and_mk (and_mk (and_mk (and_mk (and_mk (and_mk (and_mk (and_mk (and_mk (and_mk (and_mk (and_mk (and_mk (and_mk (and_mk (and_mk (and_mk (and_mk (and_mk (and_mk j0 jf1) jf2) j3) j4) j5) jf6) j7) jf8) j9) j10) j11) j12) j13) j14) j15) j16) j17) j18) j19) j20) j21) j22) j23) jf24) jf25) j26) j27) (by kernel_rfl)) j29) j30) j31)

theorem accept_eq : (Rows.laid_unicode_utf8_acceptRanges : DataW Unit) = Lib.acceptData := by kernel_rfl
theorem tabs_of {W : World} (h : laidMetH Tryz.prog Rows.fnPartPrintedRow.laid W) : Tabs W := by
  rw [MakeChecks.laidMetH_plain _ _ _ (by kernel_rfl)] at h
  exact utf8Tabs_of_readsT (U8Types.of196 Tryz.laysValid) ⟨by kernel_rfl, by kernel_rfl, by kernel_rfl, by kernel_rfl, by kernel_rfl, by kernel_rfl, by kernel_rfl⟩
    (Pinned.utf8First_eq ▸ Lib.laidMet.reads h (by simp [Rows.fnPartPrintedRow, Rows.laid_unicode_utf8_first]))
    (accept_eq ▸ Lib.laidMet.reads h (show ("unicode/utf8.acceptRanges", Rows.laid_unicode_utf8_acceptRanges) ∈ _ by simp [Rows.fnPartPrintedRow]))

theorem laidOut : laidOutB Tryz.prog = true := by kernel_rfl
theorem cells9 : Tryz.prog.cellsOf 9 = 1 := by kernel_rfl

set_option maxRecDepth 100000 in
theorem lifted (os : Os) (started : os.Started) (H : Type) (enc : TypeId × Value → H) :
    ReturnsInHanded {} Tryz.checked os 6 .any (fun w args => (Rows.fnPartPrintedSpec.pre enc Tryz.prog Tryz.f6 Rows.fnPartPrintedRow.domain false w args ∧ laidMetH Tryz.prog Rows.fnPartPrintedRow.laid w) ∧ sizedMet enc Tryz.prog Tryz.f6 (OpenSpec.ofChange Rows.fnPartPrintedSpec) false w args)
      (Rows.fnPartPrintedSpec.post enc Tryz.prog Tryz.f6 false true false false) := by
  refine returnsInHanded_of_change_and (C := Tryz.checked) (X := fun w _ => laidMetH Tryz.prog Rows.fnPartPrintedRow.laid w) (fun _ _ _ hh h => h.of_heap hh) own started (by kernel_rfl) Tryz.func6
    (ChangeSpec.witness_shaped (enc := enc) (C := Tryz.checked) (os := os) (X := fun w _ => laidMetH Tryz.prog Rows.fnPartPrintedRow.laid w) false (World.laidAll Tryz.prog os Rows.fnPartPrintedRow.laid) #[.slice none 0 0] 8 (World.laidAll_os _ _ _)
      (World.shaped_of_ZipB (by kernel_rfl) (by kernel_rfl)) (by kernel_rfl) (by kernel_rfl) (by kernel_rfl)
      (by rw [MakeChecks.laidMetH_plain _ _ _ (by kernel_rfl)]; exact laidMet_laidAll _ (by kernel_rfl) (by kernel_rfl))) ?_
  intro W base args ds gs before hval0 hW _ _ hL _
  have hval : ∀ (j : Nat) t v, Tryz.f6.params[j]? = some t → args[j]? = some v → Value.okWide Tryz.prog W .any base t v := hval0
  have hW' := hW
  obtain ⟨p, q, hA0, hV, rfl, _, _⟩ := hW
  have hA : DataW.TrodAll enc Tryz.prog W 0 (fun _ => true) true Tryz.f6.params.toList args.toList ds p := hA0
  rw [Tryz.params6] at hA hval
  obtain ⟨v0, vs0, d0, ds0, p0, q0, hargs, rfl, rfl, h0, r0⟩ := trodAll_cons hA
  obtain ⟨rfl, rfl, rfl⟩ := trodAll_nil r0
  obtain rfl : args = #[v0] := by cases args; simp_all
  obtain ⟨rfl, rfl⟩ := trodVars_none hV
  obtain ⟨a0, len, cap, rfl⟩ := Go.WideShapes.okWide_slice Tryz.underlying32 (hval 0 32 v0 rfl rfl)
  have h0k := h0
  obtain ⟨fuel, hf⟩ := h0
  simp only [List.append_nil] at hW'
  have hlt : ∀ x ∈ p0, x.block < W.heap.size := fun x hx => by simpa using hW'.lt x (by simpa using hx)
  have fin : ∀ W' : World, Below W.heap.size W W' → Rows.fnPartPrintedSpec.post enc Tryz.prog Tryz.f6 false true false false W #[.slice a0 len cap] (.bool true) W' := fun W' hb =>
    ⟨_, _, _, [], _, [], hW', trodAll_cons_mk (shut_bool Tryz.underlying4 _) trodAll_mk0, (trodAll_cons_mk (Below.trod laidOut (by kernel_rfl) (of_decide_eq_true (by kernel_rfl)) h0k hb hlt) trodAll_mk0), rfl, hb.frame _, fun h => by cases h⟩
  rcases Go.ChangeShapes.open_strings Tryz.underlying32 Tryz.underlying9 cells9 hf with ⟨hcs, hx⟩ | ⟨a, len', cap', ss, hcs, _, hl, hm, hz, hx, hcell, hws⟩
  · simp [Value.cells] at hcs
    obtain ⟨rfl, rfl, rfl⟩ := hcs
    refine (lawFnPartPrintedNone W).mono fun e W' ⟨he, hb⟩ => ?_
    subst he
    exact ⟨_, rfl, fin W' hb⟩
  · simp [Value.cells] at hcs
    obtain ⟨rfl, rfl, rfl⟩ := hcs
    simp only [if_true] at hz
    refine (lawFnPartPrintedAt a len cap (fun i => ss.getD i ByteArray.empty) W (by unfold maxLen at hm; omega) (fun i hi => hcell i (by omega)) (fun i hi => hws _ (by
      rw [List.getD, List.getElem?_eq_getElem (by omega : i < ss.length)]
      exact List.getElem_mem _)) (tabs_of hL)).mono fun e W' ⟨he, hb⟩ => ?_
    subst he
    exact ⟨_, rfl, fin W' hb⟩

theorem said : Rows.FnPartPrintedSaid :=
  OpenClaim.holds_of_wide 6 Tryz.f6 rfl rfl rfl rfl rfl rfl rfl ⟨rfl, rfl, rfl, rfl, rfl⟩ rfl rfl rfl rfl rfl (by kernel_rfl) Tryz.func6 joined
    (of_decide_eq_true (by kernel_rfl)) (by unfold Func.isWrapper; first | (rw [if_pos (by decide +kernel)]; kernel_rfl) | (rw [if_neg (by decide +kernel)]; exact ⟨rfl, rfl⟩))
    (fun os started H enc _ => lifted os started H enc)
theorem plain (f : FuncId) (fn : Func) (hf : Tryz.pinned.checked.prog.funcNamed "given.example/pub-palinode/laws.FnPartPrinted" = some f) (hfn : Tryz.pinned.checked.prog.funcs[f]? = some fn) :
    true = Tryz.pinned.checked.prog.looks [] ∧ ∀ (j : Nat) t, fn.params[j]? = some t → Tryz.pinned.checked.prog.wantsStandIn t = false := by
  obtain rfl : f = 6 := Option.some.inj ((show Tryz.prog.funcNamed "given.example/pub-palinode/laws.FnPartPrinted" = some 6 by kernel_rfl).symm.trans hf) |>.symm
  obtain rfl : fn = Tryz.f6 := (Option.some.inj (Tryz.func6.symm.trans hfn)).symm
  refine ⟨by kernel_rfl, fun j t ht => ?_⟩
  rw [Tryz.params6] at ht
  have hm : t ∈ [32] := by simpa using Array.mem_of_getElem? ht
  have hall : ([32].all fun u => !Tryz.prog.wantsStandIn u) = true := by kernel_rfl
  exact (show Tryz.prog.wantsStandIn t = false by simpa using List.all_eq_true.1 hall t hm)
theorem card : Rows.FnPartPrintedCardSaid :=
  Claim7.holds_tied_plain_at .later [] _ _ _ _ said (fun _ h => by cases h) (by kernel_rfl) (fun _ h => by cases h) fnPartPrinted_row_tie rfl ⟨rfl, rfl⟩ (by kernel_rfl) rfl plain (by kernel_rfl)
#print axioms card
end FnPartPrinted
end Go.Proofs.YtpjfmfaijcbopaaGreatDoor
