/- An escape between double quotes is the character that the standard says, whatever stands beside it on its line: for every three texts; texts longer than 2^31 - 1 bytes, and those that the guards of the law leave out, are passed over. -/
import Derived.Test.YtpjfmfaijcbopaaGreatDoorCards
import Derived.Test.YtpjfmfaijcbopaaGreatDoorTie
import Derived.Test.YtpjfmfaijcbopaaGreatDoorFacts
import Derived.Test.YtpjfmfaijcbopaaGreatDoorLawE
import Derived.Test.YtpjfmfaijcbopaaGreatDoorShelf
import Derived.ProofKit
import Derived.OpenShut
import Derived.LaidMore
import Derived.Lay
import Derived.SevenTiedAt
import Derived.Stop.Joined
import Derived.PinnedBridge
import Derived.Lib.LaidIn
import Derived.Lib.LaidU8T
namespace Go.Proofs.YtpjfmfaijcbopaaGreatDoor
namespace FnPartEscapes
open Go.ChangeShapes Go.WideShapes Go.ChangeAt Go.RowKit Go.Lib
open Go.ChangeMaps (open_string shut_string)

theorem j0 : (Rows.fnPartEscapesRow.wf (OpenSpec.ofChange Rows.fnPartEscapesSpec)) = true := by kernel_rfl
theorem j3 : (Tryz.f8.params.all (Tryz.prog.readableRec ·)) = true := by kernel_rfl
theorem j4 : (namedTie Tryz.prog Rows.fnPartEscapesRow.named Rows.fnPartEscapesSpec.vars) = true := by kernel_rfl
theorem j5 : ((Rows.fnPartEscapesRow.stops == [])) = true := by kernel_rfl
theorem j7 : ((Rows.fnPartEscapesRow.knobs == [])) = true := by kernel_rfl
theorem j9 : ((Rows.fnPartEscapesRow.inPlace == Tryz.prog.inPlace 8)) = true := by kernel_rfl
theorem j10 : ((Rows.fnPartEscapesRow.unfollowed == Tryz.prog.unfollowed 8)) = true := by kernel_rfl
theorem j11 : ((Rows.fnPartEscapesRow.recurses == Tryz.prog.recurses 8)) = true := by kernel_rfl
theorem j12 : ((Rows.fnPartEscapesRow.named == Tryz.prog.varsNamed 8)) = true := by kernel_rfl
theorem j13 : ((Rows.fnPartEscapesRow.maps == (Tryz.f8.params.toList ++ Rows.fnPartEscapesSpec.plain.varTypes Tryz.prog).any (Tryz.prog.mapsRec ·))) = true := by kernel_rfl
theorem j14 : ((Rows.fnPartEscapesRow.ifaces == (Tryz.f8.params.toList ++ Rows.fnPartEscapesSpec.plain.varTypes Tryz.prog).any (Tryz.prog.ifacesRec ·))) = true := by kernel_rfl
theorem j15 : ((Rows.fnPartEscapesRow.mapsOut == Tryz.prog.mapsAmong Tryz.f8.resultTypes.toList)) = true := by kernel_rfl
theorem j16 : ((Rows.fnPartEscapesRow.loops == (Tryz.f8.params.toList ++ Rows.fnPartEscapesSpec.plain.varTypes Tryz.prog).any (Tryz.prog.loopsFrom ·))) = true := by kernel_rfl
theorem j17 : ((Rows.fnPartEscapesRow.wideKeys == (Tryz.f8.params.toList ++ Rows.fnPartEscapesSpec.plain.varTypes Tryz.prog ++ Tryz.f8.resultTypes.toList).any (Tryz.prog.wideKeysFrom ·))) = true := by kernel_rfl
theorem j18 : (Rows.fnPartEscapesSpec.vars.all (Tryz.prog.varReadable ·)) = true := by kernel_rfl
theorem j19 : (Tryz.f8.resultTypes.all (fun t => Tryz.prog.readableRec t && decide (t < Tryz.prog.types.size))) = true := by kernel_rfl
theorem j20 : ((Rows.fnPartEscapesRow.ifacesOut == Tryz.f8.resultTypes.toList.any (Tryz.prog.ifacesRec ·))) = true := by kernel_rfl
theorem j21 : ((Rows.fnPartEscapesRow.loopsOut == Tryz.f8.resultTypes.toList.any (Tryz.prog.loopsFrom ·))) = true := by kernel_rfl
theorem j22 : ((Rows.fnPartEscapesRow.plainKeys == Tryz.prog.plainKeys)) = true := by kernel_rfl
theorem j23 : (Rows.fnPartEscapesRow.shortTexts.isNone) = true := by kernel_rfl
theorem j26 : ((Rows.fnPartEscapesRow.lifted == Tryz.prog.liftsFinal)) = true := by kernel_rfl
theorem j27 : ((Tryz.prog.make == some Rows.fnPartEscapesRow.make)) = true := by kernel_rfl
theorem j29 : ((Rows.fnPartEscapesRow.pinned == Rows.fnPartEscapesRow.pinnedBy)) = true := by kernel_rfl
theorem j30 : ((Rows.fnPartEscapesRow.veiled == (Tryz.f8.params.toList ++ Rows.fnPartEscapesSpec.plain.varTypes Tryz.prog ++ Tryz.f8.resultTypes.toList).any (Tryz.prog.veiledRec ·))) = true := by kernel_rfl
theorem j31 : (Rows.fnPartEscapesRow.veiledFits Tryz.prog Tryz.f8.params.toList (Tryz.f8.params.toList ++ Rows.fnPartEscapesSpec.plain.varTypes Tryz.prog ++ Tryz.f8.resultTypes.toList)) = true := by kernel_rfl
theorem joined : joinedFacts Tryz.prog 8 Tryz.f8 Rows.fnPartEscapesSpec Rows.fnPartEscapesRow = true := by
  unfold joinedFacts
  exact (and_mk (and_mk (and_mk (and_mk (and_mk (and_mk (and_mk (and_mk (and_mk (and_mk (and_mk (and_mk (and_mk (and_mk (and_mk (and_mk (and_mk (and_mk (and_mk (and_mk (and_mk (and_mk (and_mk (and_mk (and_mk (and_mk (and_mk (and_mk (and_mk (and_mk (and_mk j0 jf1) jf2) j3) j4) j5) jf6) j7) jf8) j9) j10) j11) j12) j13) j14) j15) j16) j17) j18) j19) j20) j21) j22) j23) jf24) jf25) j26) j27) (by kernel_rfl)) j29) j30) j31)

theorem accept_eq : (Rows.laid_unicode_utf8_acceptRanges : DataW Unit) = Lib.acceptData := by kernel_rfl
theorem tabs_of {W : World} (h : laidMetH Tryz.prog Rows.fnPartEscapesRow.laid W) : Tabs W := by
  rw [MakeChecks.laidMetH_plain _ _ _ (by kernel_rfl)] at h
  exact utf8Tabs_of_readsT (U8Types.of196 Tryz.laysValid) ⟨by kernel_rfl, by kernel_rfl, by kernel_rfl, by kernel_rfl, by kernel_rfl, by kernel_rfl, by kernel_rfl⟩
    (Pinned.utf8First_eq ▸ Lib.laidMet.reads h (by simp [Rows.fnPartEscapesRow, Rows.laid_unicode_utf8_first]))
    (accept_eq ▸ Lib.laidMet.reads h (show ("unicode/utf8.acceptRanges", Rows.laid_unicode_utf8_acceptRanges) ∈ _ by simp [Rows.fnPartEscapesRow]))

set_option maxRecDepth 100000 in
theorem lifted (os : Os) (started : os.Started) (H : Type) (enc : TypeId × Value → H) :
    ReturnsInHanded {} Tryz.checked os 8 .any (fun w args => (Rows.fnPartEscapesSpec.pre enc Tryz.prog Tryz.f8 Rows.fnPartEscapesRow.domain false w args ∧ laidMetH Tryz.prog Rows.fnPartEscapesRow.laid w) ∧ sizedMet enc Tryz.prog Tryz.f8 (OpenSpec.ofChange Rows.fnPartEscapesSpec) false w args)
      (Rows.fnPartEscapesSpec.post enc Tryz.prog Tryz.f8 false true false false) := by
  refine returnsInHanded_of_change_and (C := Tryz.checked) (X := fun w _ => laidMetH Tryz.prog Rows.fnPartEscapesRow.laid w) (fun _ _ _ hh h => h.of_heap hh) own started (by kernel_rfl) Tryz.func8
    (ChangeSpec.witness_shaped (enc := enc) (C := Tryz.checked) (os := os) (X := fun w _ => laidMetH Tryz.prog Rows.fnPartEscapesRow.laid w) false (World.laidAll Tryz.prog os Rows.fnPartEscapesRow.laid) #[.string ⟨#[]⟩, .string ⟨#[]⟩, .string ⟨#[]⟩] 8 (World.laidAll_os _ _ _)
      (World.shaped_of_ZipB (by kernel_rfl) (by kernel_rfl)) (by kernel_rfl) (by kernel_rfl) (by kernel_rfl)
      (by rw [MakeChecks.laidMetH_plain _ _ _ (by kernel_rfl)]; exact laidMet_laidAll _ (by kernel_rfl) (by kernel_rfl))) ?_
  intro W base args ds gs before hval0 hW _ _ hL _
  have hval : ∀ (j : Nat) t v, Tryz.f8.params[j]? = some t → args[j]? = some v → Value.okWide Tryz.prog W .any base t v := hval0
  have hW' := hW
  obtain ⟨p, q, hA0, hV, rfl, _, _⟩ := hW
  have hA : DataW.TrodAll enc Tryz.prog W 0 (fun _ => true) true Tryz.f8.params.toList args.toList ds p := hA0
  rw [Tryz.params8] at hA hval
  obtain ⟨v0, vs0, d0, ds0, p0, q0, hargs, rfl, rfl, h0, r0⟩ := trodAll_cons hA
  obtain ⟨v1, vs1, d1, ds1, p1, q1, rfl, rfl, rfl, h1, r1⟩ := trodAll_cons r0
  obtain ⟨v2, vs2, d2, ds2, p2, q2, rfl, rfl, rfl, h2, r2⟩ := trodAll_cons r1
  obtain ⟨rfl, rfl, rfl⟩ := trodAll_nil r2
  obtain rfl : args = #[v0, v1, v2] := by cases args; simp_all
  obtain ⟨rfl, rfl⟩ := trodVars_none hV
  obtain ⟨s0, rfl, rfl, rfl, ws0⟩ := open_string Tryz.underlying9 (hval 0 9 v0 rfl rfl) h0
  obtain ⟨s1, rfl, rfl, rfl, ws1⟩ := open_string Tryz.underlying9 (hval 1 9 v1 rfl rfl) h1
  obtain ⟨s2, rfl, rfl, rfl, ws2⟩ := open_string Tryz.underlying9 (hval 2 9 v2 rfl rfl) h2
  simp only [List.append_nil] at hW'
  refine (lawFnPartEscapes s0 s1 s2 W ws0 ws1 ws2 (tabs_of hL)).mono fun e W' ⟨he, hb⟩ => ?_
  subst he
  exact ⟨_, rfl, _, _, _, [], [], [], hW', trodAll_cons_mk (shut_bool Tryz.underlying4 _) trodAll_mk0, (trodAll_cons_mk (shut_string Tryz.underlying9 ws0) (trodAll_cons_mk (shut_string Tryz.underlying9 ws1) (trodAll_cons_mk (shut_string Tryz.underlying9 ws2) trodAll_mk0))), rfl, hb.frame _, fun h => by cases h⟩

theorem said : Rows.FnPartEscapesSaid :=
  OpenClaim.holds_of_wide 8 Tryz.f8 rfl rfl rfl rfl rfl rfl rfl ⟨rfl, rfl, rfl, rfl, rfl⟩ rfl rfl rfl rfl rfl (by kernel_rfl) Tryz.func8 joined
    (of_decide_eq_true (by kernel_rfl)) (by unfold Func.isWrapper; first | (rw [if_pos (by decide +kernel)]; kernel_rfl) | (rw [if_neg (by decide +kernel)]; exact ⟨rfl, rfl⟩))
    (fun os started H enc _ => lifted os started H enc)
theorem plain (f : FuncId) (fn : Func) (hf : Tryz.pinned.checked.prog.funcNamed "given.example/pub-palinode/laws.FnPartEscapes" = some f) (hfn : Tryz.pinned.checked.prog.funcs[f]? = some fn) :
    true = Tryz.pinned.checked.prog.looks [] ∧ ∀ (j : Nat) t, fn.params[j]? = some t → Tryz.pinned.checked.prog.wantsStandIn t = false := by
  obtain rfl : f = 8 := Option.some.inj ((show Tryz.prog.funcNamed "given.example/pub-palinode/laws.FnPartEscapes" = some 8 by kernel_rfl).symm.trans hf) |>.symm
  obtain rfl : fn = Tryz.f8 := (Option.some.inj (Tryz.func8.symm.trans hfn)).symm
  refine ⟨by kernel_rfl, fun j t ht => ?_⟩
  rw [Tryz.params8] at ht
  have hm : t ∈ [9, 9, 9] := by simpa using Array.mem_of_getElem? ht
  have hall : ([9, 9, 9].all fun u => !Tryz.prog.wantsStandIn u) = true := by kernel_rfl
  exact (show Tryz.prog.wantsStandIn t = false by simpa using List.all_eq_true.1 hall t hm)
theorem card : Rows.FnPartEscapesCardSaid :=
  Claim7.holds_tied_plain_at .later [] _ _ _ _ said (fun _ h => by cases h) (by kernel_rfl) (fun _ h => by cases h) fnPartEscapes_row_tie rfl ⟨rfl, rfl⟩ (by kernel_rfl) rfl plain (by kernel_rfl)
#print axioms card
end FnPartEscapes
end Go.Proofs.YtpjfmfaijcbopaaGreatDoor
