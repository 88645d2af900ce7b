/- The row and the card of FnPartComment. -/
import Derived.Test.YtpjfmfaijcbopaaGreatDoorCards
import Derived.Test.YtpjfmfaijcbopaaGreatDoorTie
import Derived.Test.YtpjfmfaijcbopaaGreatDoorFacts
import Derived.Test.YtpjfmfaijcbopaaGreatDoorLawCom
import Derived.Test.YtpjfmfaijcbopaaGreatDoorShelf
import Derived.ProofKit
import Derived.OpenShut
import Derived.LaidMore
import Derived.Lay
import Derived.SevenTiedAt
import Derived.Stop.Joined
import Derived.PinnedBridge
import Derived.Lib.LaidIn
import Derived.Lib.LaidU8T
namespace Go.Proofs.YtpjfmfaijcbopaaGreatDoor
namespace FnPartComment
open Go.ChangeShapes Go.WideShapes Go.ChangeAt Go.RowKit Go.Lib
open Go.ChangeMaps (open_string shut_string)

theorem j0 : (Rows.fnPartCommentRow.wf (OpenSpec.ofChange Rows.fnPartCommentSpec)) = true := by kernel_rfl
theorem j3 : (Tryz.f5.params.all (Tryz.prog.readableRec ·)) = true := by kernel_rfl
theorem j4 : (namedTie Tryz.prog Rows.fnPartCommentRow.named Rows.fnPartCommentSpec.vars) = true := by kernel_rfl
theorem j5 : ((Rows.fnPartCommentRow.stops == [])) = true := by kernel_rfl
theorem j7 : ((Rows.fnPartCommentRow.knobs == [])) = true := by kernel_rfl
theorem j9 : ((Rows.fnPartCommentRow.inPlace == Tryz.prog.inPlace 5)) = true := by kernel_rfl
theorem j10 : ((Rows.fnPartCommentRow.unfollowed == Tryz.prog.unfollowed 5)) = true := by kernel_rfl
theorem j11 : ((Rows.fnPartCommentRow.recurses == Tryz.prog.recurses 5)) = true := by kernel_rfl
theorem j12 : ((Rows.fnPartCommentRow.named == Tryz.prog.varsNamed 5)) = true := by kernel_rfl
theorem j13 : ((Rows.fnPartCommentRow.maps == (Tryz.f5.params.toList ++ Rows.fnPartCommentSpec.plain.varTypes Tryz.prog).any (Tryz.prog.mapsRec ·))) = true := by kernel_rfl
theorem j14 : ((Rows.fnPartCommentRow.ifaces == (Tryz.f5.params.toList ++ Rows.fnPartCommentSpec.plain.varTypes Tryz.prog).any (Tryz.prog.ifacesRec ·))) = true := by kernel_rfl
theorem j15 : ((Rows.fnPartCommentRow.mapsOut == Tryz.prog.mapsAmong Tryz.f5.resultTypes.toList)) = true := by kernel_rfl
theorem j16 : ((Rows.fnPartCommentRow.loops == (Tryz.f5.params.toList ++ Rows.fnPartCommentSpec.plain.varTypes Tryz.prog).any (Tryz.prog.loopsFrom ·))) = true := by kernel_rfl
theorem j17 : ((Rows.fnPartCommentRow.wideKeys == (Tryz.f5.params.toList ++ Rows.fnPartCommentSpec.plain.varTypes Tryz.prog ++ Tryz.f5.resultTypes.toList).any (Tryz.prog.wideKeysFrom ·))) = true := by kernel_rfl
theorem j18 : (Rows.fnPartCommentSpec.vars.all (Tryz.prog.varReadable ·)) = true := by kernel_rfl
theorem j19 : (Tryz.f5.resultTypes.all (fun t => Tryz.prog.readableRec t && decide (t < Tryz.prog.types.size))) = true := by kernel_rfl
theorem j20 : ((Rows.fnPartCommentRow.ifacesOut == Tryz.f5.resultTypes.toList.any (Tryz.prog.ifacesRec ·))) = true := by kernel_rfl
theorem j21 : ((Rows.fnPartCommentRow.loopsOut == Tryz.f5.resultTypes.toList.any (Tryz.prog.loopsFrom ·))) = true := by kernel_rfl
theorem j22 : ((Rows.fnPartCommentRow.plainKeys == Tryz.prog.plainKeys)) = true := by kernel_rfl
theorem j23 : (Rows.fnPartCommentRow.shortTexts.isNone) = true := by kernel_rfl
theorem j26 : ((Rows.fnPartCommentRow.lifted == Tryz.prog.liftsFinal)) = true := by kernel_rfl
theorem j27 : ((Tryz.prog.make == some Rows.fnPartCommentRow.make)) = true := by kernel_rfl
theorem j29 : ((Rows.fnPartCommentRow.pinned == Rows.fnPartCommentRow.pinnedBy)) = true := by kernel_rfl
theorem j30 : ((Rows.fnPartCommentRow.veiled == (Tryz.f5.params.toList ++ Rows.fnPartCommentSpec.plain.varTypes Tryz.prog ++ Tryz.f5.resultTypes.toList).any (Tryz.prog.veiledRec ·))) = true := by kernel_rfl
theorem j31 : (Rows.fnPartCommentRow.veiledFits Tryz.prog Tryz.f5.params.toList (Tryz.f5.params.toList ++ Rows.fnPartCommentSpec.plain.varTypes Tryz.prog ++ Tryz.f5.resultTypes.toList)) = true := by kernel_rfl
theorem joined : joinedFacts Tryz.prog 5 Tryz.f5 Rows.fnPartCommentSpec Rows.fnPartCommentRow = true := by
  unfold joinedFacts
  exact (and_mk (and_mk (and_mk (and_mk (and_mk (and_mk (and_mk (and_mk (and_mk (and_mk (and_mk (and_mk (and_mk (and_mk (and_mk (and_mk (and_mk (and_mk (and_mk (and_mk (and_mk (and_mk (and_mk (and_mk (and_mk (and_mk (and_mk (and_mk (and_mk (and_mk (and_mk j0 jf1) jf2) j3) j4) j5) jf6) j7) jf8) j9) j10) j11) j12) j13) j14) j15) j16) j17) j18) j19) j20) j21) j22) j23) jf24) jf25) j26) j27) (by kernel_rfl)) j29) j30) j31)

theorem accept_eq : (Rows.laid_unicode_utf8_acceptRanges : DataW Unit) = Lib.acceptData := by kernel_rfl
theorem tabs_of {W : World} (h : laidMetH Tryz.prog Rows.fnPartCommentRow.laid W) : Tabs W := by
  rw [MakeChecks.laidMetH_plain _ _ _ (by kernel_rfl)] at h
  exact utf8Tabs_of_readsT (U8Types.of196 Tryz.laysValid) ⟨by kernel_rfl, by kernel_rfl, by kernel_rfl, by kernel_rfl, by kernel_rfl, by kernel_rfl, by kernel_rfl⟩
    (Pinned.utf8First_eq ▸ Lib.laidMet.reads h (by simp [Rows.fnPartCommentRow, Rows.laid_unicode_utf8_first]))
    (accept_eq ▸ Lib.laidMet.reads h (show ("unicode/utf8.acceptRanges", Rows.laid_unicode_utf8_acceptRanges) ∈ _ by simp [Rows.fnPartCommentRow]))

set_option maxRecDepth 100000 in
theorem lifted (os : Os) (started : os.Started) (H : Type) (enc : TypeId × Value → H) :
    ReturnsInHanded {} Tryz.checked os 5 .any (fun w args => (Rows.fnPartCommentSpec.pre enc Tryz.prog Tryz.f5 Rows.fnPartCommentRow.domain false w args ∧ laidMetH Tryz.prog Rows.fnPartCommentRow.laid w) ∧ sizedMet enc Tryz.prog Tryz.f5 (OpenSpec.ofChange Rows.fnPartCommentSpec) false w args)
      (Rows.fnPartCommentSpec.post enc Tryz.prog Tryz.f5 false true false false) := by
  refine returnsInHanded_of_change_and (C := Tryz.checked) (X := fun w _ => laidMetH Tryz.prog Rows.fnPartCommentRow.laid w) (fun _ _ _ hh h => h.of_heap hh) own started (by kernel_rfl) Tryz.func5
    (ChangeSpec.witness_shaped (enc := enc) (C := Tryz.checked) (os := os) (X := fun w _ => laidMetH Tryz.prog Rows.fnPartCommentRow.laid w) false (World.laidAll Tryz.prog os Rows.fnPartCommentRow.laid) #[.string ⟨#[]⟩, .string ⟨#[]⟩] 8 (World.laidAll_os _ _ _)
      (World.shaped_of_ZipB (by kernel_rfl) (by kernel_rfl)) (by kernel_rfl) (by kernel_rfl) (by kernel_rfl)
      (by rw [MakeChecks.laidMetH_plain _ _ _ (by kernel_rfl)]; exact laidMet_laidAll _ (by kernel_rfl) (by kernel_rfl))) ?_
  intro W base args ds gs before hval0 hW _ _ hL _
  have hval : ∀ (j : Nat) t v, Tryz.f5.params[j]? = some t → args[j]? = some v → Value.okWide Tryz.prog W .any base t v := hval0
  have hW' := hW
  obtain ⟨p, q, hA0, hV, rfl, _, _⟩ := hW
  have hA : DataW.TrodAll enc Tryz.prog W 0 (fun _ => true) true Tryz.f5.params.toList args.toList ds p := hA0
  rw [Tryz.params5] at hA hval
  obtain ⟨v0, vs0, d0, ds0, p0, q0, hargs, rfl, rfl, h0, r0⟩ := trodAll_cons hA
  obtain ⟨v1, vs1, d1, ds1, p1, q1, rfl, rfl, rfl, h1, r1⟩ := trodAll_cons r0
  obtain ⟨rfl, rfl, rfl⟩ := trodAll_nil r1
  obtain rfl : args = #[v0, v1] := by cases args; simp_all
  obtain ⟨rfl, rfl⟩ := trodVars_none hV
  obtain ⟨s0, rfl, rfl, rfl, ws0⟩ := open_string Tryz.underlying9 (hval 0 9 v0 rfl rfl) h0
  obtain ⟨s1, rfl, rfl, rfl, ws1⟩ := open_string Tryz.underlying9 (hval 1 9 v1 rfl rfl) h1
  simp only [List.append_nil] at hW'
  refine (lawFnPartComment s0 s1 W ws0 ws1 (tabs_of hL)).mono fun e W' ⟨he, hb⟩ => ?_
  subst he
  exact ⟨_, rfl, _, _, _, [], [], [], hW', trodAll_cons_mk (shut_bool Tryz.underlying4 _) trodAll_mk0, (trodAll_cons_mk (shut_string Tryz.underlying9 ws0) (trodAll_cons_mk (shut_string Tryz.underlying9 ws1) trodAll_mk0)), rfl, hb.frame _, fun h => by cases h⟩

theorem said : Rows.FnPartCommentSaid :=
  OpenClaim.holds_of_wide 5 Tryz.f5 rfl rfl rfl rfl rfl rfl rfl ⟨rfl, rfl, rfl, rfl, rfl⟩ rfl rfl rfl rfl rfl (by kernel_rfl) Tryz.func5 joined
    (of_decide_eq_true (by kernel_rfl)) (by unfold Func.isWrapper; first | (rw [if_pos (by decide +kernel)]; kernel_rfl) | (rw [if_neg (by decide +kernel)]; exact ⟨rfl, rfl⟩))
    (fun os started H enc _ => lifted os started H enc)
theorem plain (f : FuncId) (fn : Func) (hf : Tryz.pinned.checked.prog.funcNamed "given.example/pub-palinode/laws.FnPartComment" = some f) (hfn : Tryz.pinned.checked.prog.funcs[f]? = some fn) :
    true = Tryz.pinned.checked.prog.looks [] ∧ ∀ (j : Nat) t, fn.params[j]? = some t → Tryz.pinned.checked.prog.wantsStandIn t = false := by
  obtain rfl : f = 5 := Option.some.inj ((show Tryz.prog.funcNamed "given.example/pub-palinode/laws.FnPartComment" = some 5 by kernel_rfl).symm.trans hf) |>.symm
  obtain rfl : fn = Tryz.f5 := (Option.some.inj (Tryz.func5.symm.trans hfn)).symm
  refine ⟨by kernel_rfl, fun j t ht => ?_⟩
  rw [Tryz.params5] at ht
  have hm : t ∈ [9, 9] := by simpa using Array.mem_of_getElem? ht
  have hall : ([9, 9].all fun u => !Tryz.prog.wantsStandIn u) = true := by kernel_rfl
  exact (show Tryz.prog.wantsStandIn t = false by simpa using List.all_eq_true.1 hall t hm)
theorem card : Rows.FnPartCommentCardSaid :=
  Claim7.holds_tied_plain_at .later [] _ _ _ _ said (fun _ h => by cases h) (by kernel_rfl) (fun _ h => by cases h) fnPartComment_row_tie rfl ⟨rfl, rfl⟩ (by kernel_rfl) rfl plain (by kernel_rfl)
#print axioms card
end FnPartComment
end Go.Proofs.YtpjfmfaijcbopaaGreatDoor
