/- For every text, laws.FnPartStarts returns true: for texts of characters that may stand in lines, and line feeds, the scanner finds the marker of a document's beginning just where --- stands with white, a line feed or the end behind it. Conditions: the text is at most 2^47 - 4096 bytes (the form's reach), and the listed package-level variables hold what the program's text lays (tied by the card). -/
import Derived.Test.YtpjfmfaijcbopaaGreatDoorCards
import Derived.Test.YtpjfmfaijcbopaaGreatDoorTie
import Derived.Test.YtpjfmfaijcbopaaGreatDoorFacts
import Derived.Test.YtpjfmfaijcbopaaGreatDoorLawStarts
import Derived.Test.YtpjfmfaijcbopaaGreatDoorShelf
import Derived.ProofKit
import Derived.OpenShut
import Derived.LaidMore
import Derived.Lay
import Derived.SevenTiedAt
import Derived.Stop.Joined
import Derived.PinnedBridge
import Derived.Lib.LaidIn
import Derived.Lib.LaidU8T
namespace Go.Proofs.YtpjfmfaijcbopaaGreatDoor
namespace FnPartStarts
open Go.ChangeShapes Go.WideShapes Go.ChangeAt Go.RowKit Go.Lib
open Go.ChangeMaps (open_string shut_string)

theorem j0 : (Rows.fnPartStartsRow.wf (OpenSpec.ofChange Rows.fnPartStartsSpec)) = true := by kernel_rfl
theorem j3 : (Tryz.f4.params.all (Tryz.prog.readableRec ·)) = true := by kernel_rfl
theorem j4 : (namedTie Tryz.prog Rows.fnPartStartsRow.named Rows.fnPartStartsSpec.vars) = true := by kernel_rfl
theorem j5 : ((Rows.fnPartStartsRow.stops == [])) = true := by kernel_rfl
theorem j7 : ((Rows.fnPartStartsRow.knobs == [])) = true := by kernel_rfl
theorem j9 : ((Rows.fnPartStartsRow.inPlace == Tryz.prog.inPlace 4)) = true := by kernel_rfl
theorem j10 : ((Rows.fnPartStartsRow.unfollowed == Tryz.prog.unfollowed 4)) = true := by kernel_rfl
theorem j11 : ((Rows.fnPartStartsRow.recurses == Tryz.prog.recurses 4)) = true := by kernel_rfl
theorem j12 : ((Rows.fnPartStartsRow.named == Tryz.prog.varsNamed 4)) = true := by kernel_rfl
theorem j13 : ((Rows.fnPartStartsRow.maps == (Tryz.f4.params.toList ++ Rows.fnPartStartsSpec.plain.varTypes Tryz.prog).any (Tryz.prog.mapsRec ·))) = true := by kernel_rfl
theorem j14 : ((Rows.fnPartStartsRow.ifaces == (Tryz.f4.params.toList ++ Rows.fnPartStartsSpec.plain.varTypes Tryz.prog).any (Tryz.prog.ifacesRec ·))) = true := by kernel_rfl
theorem j15 : ((Rows.fnPartStartsRow.mapsOut == Tryz.prog.mapsAmong Tryz.f4.resultTypes.toList)) = true := by kernel_rfl
theorem j16 : ((Rows.fnPartStartsRow.loops == (Tryz.f4.params.toList ++ Rows.fnPartStartsSpec.plain.varTypes Tryz.prog).any (Tryz.prog.loopsFrom ·))) = true := by kernel_rfl
theorem j17 : ((Rows.fnPartStartsRow.wideKeys == (Tryz.f4.params.toList ++ Rows.fnPartStartsSpec.plain.varTypes Tryz.prog ++ Tryz.f4.resultTypes.toList).any (Tryz.prog.wideKeysFrom ·))) = true := by kernel_rfl
theorem j18 : (Rows.fnPartStartsSpec.vars.all (Tryz.prog.varReadable ·)) = true := by kernel_rfl
theorem j19 : (Tryz.f4.resultTypes.all (fun t => Tryz.prog.readableRec t && decide (t < Tryz.prog.types.size))) = true := by kernel_rfl
theorem j20 : ((Rows.fnPartStartsRow.ifacesOut == Tryz.f4.resultTypes.toList.any (Tryz.prog.ifacesRec ·))) = true := by kernel_rfl
theorem j21 : ((Rows.fnPartStartsRow.loopsOut == Tryz.f4.resultTypes.toList.any (Tryz.prog.loopsFrom ·))) = true := by kernel_rfl
theorem j22 : ((Rows.fnPartStartsRow.plainKeys == Tryz.prog.plainKeys)) = true := by kernel_rfl
theorem j23 : (Rows.fnPartStartsRow.shortTexts.isNone) = true := by kernel_rfl
theorem j26 : ((Rows.fnPartStartsRow.lifted == Tryz.prog.liftsFinal)) = true := by kernel_rfl
theorem j27 : ((Tryz.prog.make == some Rows.fnPartStartsRow.make)) = true := by kernel_rfl
theorem j29 : ((Rows.fnPartStartsRow.pinned == Rows.fnPartStartsRow.pinnedBy)) = true := by kernel_rfl
theorem j30 : ((Rows.fnPartStartsRow.veiled == (Tryz.f4.params.toList ++ Rows.fnPartStartsSpec.plain.varTypes Tryz.prog ++ Tryz.f4.resultTypes.toList).any (Tryz.prog.veiledRec ·))) = true := by kernel_rfl
theorem j31 : (Rows.fnPartStartsRow.veiledFits Tryz.prog Tryz.f4.params.toList (Tryz.f4.params.toList ++ Rows.fnPartStartsSpec.plain.varTypes Tryz.prog ++ Tryz.f4.resultTypes.toList)) = true := by kernel_rfl
theorem joined : joinedFacts Tryz.prog 4 Tryz.f4 Rows.fnPartStartsSpec Rows.fnPartStartsRow = true := by
  unfold joinedFacts
  exact (and_mk (and_mk (and_mk (and_mk (and_mk (and_mk (and_mk (and_mk (and_mk (and_mk (and_mk (and_mk (and_mk (and_mk (and_mk (and_mk (and_mk (and_mk (and_mk (and_mk (and_mk (and_mk (and_mk (and_mk (and_mk (and_mk (and_mk (and_mk (and_mk (and_mk (and_mk j0 jf1) jf2) j3) j4) j5) jf6) j7) jf8) j9) j10) j11) j12) j13) j14) j15) j16) j17) j18) j19) j20) j21) j22) j23) jf24) jf25) j26) j27) (by kernel_rfl)) j29) j30) j31)

theorem accept_eq : (Rows.laid_unicode_utf8_acceptRanges : DataW Unit) = Lib.acceptData := by kernel_rfl
theorem tabs_of {W : World} (h : laidMetH Tryz.prog Rows.fnPartStartsRow.laid W) : Tabs W := by
  rw [MakeChecks.laidMetH_plain _ _ _ (by kernel_rfl)] at h
  exact utf8Tabs_of_readsT (U8Types.of196 Tryz.laysValid) ⟨by kernel_rfl, by kernel_rfl, by kernel_rfl, by kernel_rfl, by kernel_rfl, by kernel_rfl, by kernel_rfl⟩
    (Pinned.utf8First_eq ▸ Lib.laidMet.reads h (by simp [Rows.fnPartStartsRow, Rows.laid_unicode_utf8_first]))
    (accept_eq ▸ Lib.laidMet.reads h (show ("unicode/utf8.acceptRanges", Rows.laid_unicode_utf8_acceptRanges) ∈ _ by simp [Rows.fnPartStartsRow]))

set_option maxRecDepth 100000 in
theorem lifted (os : Os) (started : os.Started) (H : Type) (enc : TypeId × Value → H) :
    ReturnsInHanded {} Tryz.checked os 4 .any (fun w args => (Rows.fnPartStartsSpec.pre enc Tryz.prog Tryz.f4 Rows.fnPartStartsRow.domain false w args ∧ laidMetH Tryz.prog Rows.fnPartStartsRow.laid w) ∧ sizedMet enc Tryz.prog Tryz.f4 (OpenSpec.ofChange Rows.fnPartStartsSpec) false w args)
      (Rows.fnPartStartsSpec.post enc Tryz.prog Tryz.f4 false true false false) := by
  refine returnsInHanded_of_change_and (C := Tryz.checked) (X := fun w _ => laidMetH Tryz.prog Rows.fnPartStartsRow.laid w) (fun _ _ _ hh h => h.of_heap hh) own started (by kernel_rfl) Tryz.func4
    (ChangeSpec.witness_shaped (enc := enc) (C := Tryz.checked) (os := os) (X := fun w _ => laidMetH Tryz.prog Rows.fnPartStartsRow.laid w) false (World.laidAll Tryz.prog os Rows.fnPartStartsRow.laid) #[.string ⟨#[]⟩] 8 (World.laidAll_os _ _ _)
      (World.shaped_of_ZipB (by kernel_rfl) (by kernel_rfl)) (by kernel_rfl) (by kernel_rfl) (by kernel_rfl)
      (by rw [MakeChecks.laidMetH_plain _ _ _ (by kernel_rfl)]; exact laidMet_laidAll _ (by kernel_rfl) (by kernel_rfl))) ?_
  intro W base args ds gs before hval0 hW _ _ hL _
  have hval : ∀ (j : Nat) t v, Tryz.f4.params[j]? = some t → args[j]? = some v → Value.okWide Tryz.prog W .any base t v := hval0
  have hW' := hW
  obtain ⟨p, q, hA0, hV, rfl, _, _⟩ := hW
  have hA : DataW.TrodAll enc Tryz.prog W 0 (fun _ => true) true Tryz.f4.params.toList args.toList ds p := hA0
  rw [Tryz.params4] at hA hval
  obtain ⟨v0, vs0, d0, ds0, p0, q0, hargs, rfl, rfl, h0, r0⟩ := trodAll_cons hA
  obtain ⟨rfl, rfl, rfl⟩ := trodAll_nil r0
  obtain rfl : args = #[v0] := by cases args; simp_all
  obtain ⟨rfl, rfl⟩ := trodVars_none hV
  obtain ⟨s0, rfl, rfl, rfl, ws0⟩ := open_string Tryz.underlying9 (hval 0 9 v0 rfl rfl) h0
  simp only [List.append_nil] at hW'
  refine (lawFnPartStarts s0 W ws0 (tabs_of hL)).mono fun e W' ⟨he, hb⟩ => ?_
  subst he
  exact ⟨_, rfl, _, _, _, [], [], [], hW', trodAll_cons_mk (shut_bool Tryz.underlying4 _) trodAll_mk0, (trodAll_cons_mk (shut_string Tryz.underlying9 ws0) trodAll_mk0), rfl, hb.frame _, fun h => by cases h⟩

theorem said : Rows.FnPartStartsSaid :=
  OpenClaim.holds_of_wide 4 Tryz.f4 rfl rfl rfl rfl rfl rfl rfl ⟨rfl, rfl, rfl, rfl, rfl⟩ rfl rfl rfl rfl rfl (by kernel_rfl) Tryz.func4 joined
    (of_decide_eq_true (by kernel_rfl)) (by unfold Func.isWrapper; first | (rw [if_pos (by decide +kernel)]; kernel_rfl) | (rw [if_neg (by decide +kernel)]; exact ⟨rfl, rfl⟩))
    (fun os started H enc _ => lifted os started H enc)
theorem plain (f : FuncId) (fn : Func) (hf : Tryz.pinned.checked.prog.funcNamed "given.example/pub-palinode/laws.FnPartStarts" = some f) (hfn : Tryz.pinned.checked.prog.funcs[f]? = some fn) :
    true = Tryz.pinned.checked.prog.looks [] ∧ ∀ (j : Nat) t, fn.params[j]? = some t → Tryz.pinned.checked.prog.wantsStandIn t = false := by
  obtain rfl : f = 4 := Option.some.inj ((show Tryz.prog.funcNamed "given.example/pub-palinode/laws.FnPartStarts" = some 4 by kernel_rfl).symm.trans hf) |>.symm
  obtain rfl : fn = Tryz.f4 := (Option.some.inj (Tryz.func4.symm.trans hfn)).symm
  refine ⟨by kernel_rfl, fun j t ht => ?_⟩
  rw [Tryz.params4] at ht
  have hm : t ∈ [9] := by simpa using Array.mem_of_getElem? ht
  have hall : ([9].all fun u => !Tryz.prog.wantsStandIn u) = true := by kernel_rfl
  exact (show Tryz.prog.wantsStandIn t = false by simpa using List.all_eq_true.1 hall t hm)
theorem card : Rows.FnPartStartsCardSaid :=
  Claim7.holds_tied_plain_at .later [] _ _ _ _ said (fun _ h => by cases h) (by kernel_rfl) (fun _ h => by cases h) fnPartStarts_row_tie rfl ⟨rfl, rfl⟩ (by kernel_rfl) rfl plain (by kernel_rfl)
#print axioms card
end FnPartStarts
end Go.Proofs.YtpjfmfaijcbopaaGreatDoor
