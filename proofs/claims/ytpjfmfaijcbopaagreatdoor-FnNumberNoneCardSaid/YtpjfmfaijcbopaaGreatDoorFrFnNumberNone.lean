/- A text with a character that stands in no number is none: for every text; texts longer than 2^31 - 1 bytes, and those that have a p and an x beside it (impl.Left leaves them out), are passed over. -/
import Derived.Test.YtpjfmfaijcbopaaGreatDoorCards
import Derived.Test.YtpjfmfaijcbopaaGreatDoorTie
import Derived.Test.YtpjfmfaijcbopaaGreatDoorFacts
import Derived.Test.YtpjfmfaijcbopaaGreatDoorLawN
import Derived.Test.YtpjfmfaijcbopaaGreatDoorTb
import Derived.ProofKit
import Derived.OpenShut
import Derived.LaidMore
import Derived.Lay
import Derived.SevenTiedAt
import Derived.Stop.Joined
import Derived.PinnedBridge
import Derived.Lib.LaidIn
import Derived.Lib.LaidU8T
namespace Go.Proofs.YtpjfmfaijcbopaaGreatDoor
namespace FnNumberNone
open Go.ChangeShapes Go.WideShapes Go.ChangeAt Go.RowKit Go.Lib
open Go.ChangeMaps (open_string shut_string)

theorem j0 : (Rows.fnNumberNoneRow.wf (OpenSpec.ofChange Rows.fnNumberNoneSpec)) = true := by kernel_rfl
theorem j3 : (Tryz.f7.params.all (Tryz.prog.readableRec ·)) = true := by kernel_rfl
theorem j4 : (namedTie Tryz.prog Rows.fnNumberNoneRow.named Rows.fnNumberNoneSpec.vars) = true := by kernel_rfl
theorem j5 : ((Rows.fnNumberNoneRow.stops == [])) = true := by kernel_rfl
theorem j7 : ((Rows.fnNumberNoneRow.knobs == [])) = true := by kernel_rfl
theorem j9 : ((Rows.fnNumberNoneRow.inPlace == Tryz.prog.inPlace 7)) = true := by kernel_rfl
theorem j10 : ((Rows.fnNumberNoneRow.unfollowed == Tryz.prog.unfollowed 7)) = true := by kernel_rfl
theorem j11 : ((Rows.fnNumberNoneRow.recurses == Tryz.prog.recurses 7)) = true := by kernel_rfl
theorem j12 : ((Rows.fnNumberNoneRow.named == Tryz.prog.varsNamed 7)) = true := by kernel_rfl
theorem j13 : ((Rows.fnNumberNoneRow.maps == (Tryz.f7.params.toList ++ Rows.fnNumberNoneSpec.plain.varTypes Tryz.prog).any (Tryz.prog.mapsRec ·))) = true := by kernel_rfl
theorem j14 : ((Rows.fnNumberNoneRow.ifaces == (Tryz.f7.params.toList ++ Rows.fnNumberNoneSpec.plain.varTypes Tryz.prog).any (Tryz.prog.ifacesRec ·))) = true := by kernel_rfl
theorem j15 : ((Rows.fnNumberNoneRow.mapsOut == Tryz.prog.mapsAmong Tryz.f7.resultTypes.toList)) = true := by kernel_rfl
theorem j16 : ((Rows.fnNumberNoneRow.loops == (Tryz.f7.params.toList ++ Rows.fnNumberNoneSpec.plain.varTypes Tryz.prog).any (Tryz.prog.loopsFrom ·))) = true := by kernel_rfl
theorem j17 : ((Rows.fnNumberNoneRow.wideKeys == (Tryz.f7.params.toList ++ Rows.fnNumberNoneSpec.plain.varTypes Tryz.prog ++ Tryz.f7.resultTypes.toList).any (Tryz.prog.wideKeysFrom ·))) = true := by kernel_rfl
theorem j18 : (Rows.fnNumberNoneSpec.vars.all (Tryz.prog.varReadable ·)) = true := by kernel_rfl
theorem j19 : (Tryz.f7.resultTypes.all (fun t => Tryz.prog.readableRec t && decide (t < Tryz.prog.types.size))) = true := by kernel_rfl
theorem j20 : ((Rows.fnNumberNoneRow.ifacesOut == Tryz.f7.resultTypes.toList.any (Tryz.prog.ifacesRec ·))) = true := by kernel_rfl
theorem j21 : ((Rows.fnNumberNoneRow.loopsOut == Tryz.f7.resultTypes.toList.any (Tryz.prog.loopsFrom ·))) = true := by kernel_rfl
theorem j22 : ((Rows.fnNumberNoneRow.plainKeys == Tryz.prog.plainKeys)) = true := by kernel_rfl
theorem j23 : (Rows.fnNumberNoneRow.shortTexts.isNone) = true := by kernel_rfl
theorem j26 : ((Rows.fnNumberNoneRow.lifted == Tryz.prog.liftsFinal)) = true := by kernel_rfl
theorem j27 : ((Tryz.prog.make == some Rows.fnNumberNoneRow.make)) = true := by kernel_rfl
theorem j29 : ((Rows.fnNumberNoneRow.pinned == Rows.fnNumberNoneRow.pinnedBy)) = true := by kernel_rfl
theorem j30 : ((Rows.fnNumberNoneRow.veiled == (Tryz.f7.params.toList ++ Rows.fnNumberNoneSpec.plain.varTypes Tryz.prog ++ Tryz.f7.resultTypes.toList).any (Tryz.prog.veiledRec ·))) = true := by kernel_rfl
theorem j31 : (Rows.fnNumberNoneRow.veiledFits Tryz.prog Tryz.f7.params.toList (Tryz.f7.params.toList ++ Rows.fnNumberNoneSpec.plain.varTypes Tryz.prog ++ Tryz.f7.resultTypes.toList)) = true := by kernel_rfl
theorem joined : joinedFacts Tryz.prog 7 Tryz.f7 Rows.fnNumberNoneSpec Rows.fnNumberNoneRow = true := by
  unfold joinedFacts
  exact (and_mk (and_mk (and_mk (and_mk (and_mk (and_mk (and_mk (and_mk (and_mk (and_mk (and_mk (and_mk (and_mk (and_mk (and_mk (and_mk (and_mk (and_mk (and_mk (and_mk (and_mk (and_mk (and_mk (and_mk (and_mk (and_mk (and_mk (and_mk (and_mk (and_mk (and_mk j0 jf1) jf2) j3) j4) j5) jf6) j7) jf8) j9) j10) j11) j12) j13) j14) j15) j16) j17) j18) j19) j20) j21) j22) j23) jf24) jf25) j26) j27) (by kernel_rfl)) j29) j30) j31)

theorem tabs_of {W : World} (h : laidMetH Tryz.prog Rows.fnNumberNoneRow.laid W) : ∃ b11 b10 bl, NumTabs W b11 b10 bl := by
  rw [MakeChecks.laidMetH_plain _ _ _ (by kernel_rfl)] at h
  exact numtabs_mk
    (Lib.laidMet.reads h (show ("internal/strconv.optimize", Rows.laid_internal_strconv_optimize) ∈ _ by simp [Rows.fnNumberNoneRow]))
    (Lib.laidMet.reads h (show ("internal/strconv.float64info", Rows.laid_internal_strconv_float64info) ∈ _ by simp [Rows.fnNumberNoneRow]))
    (Lib.laidMet.reads h (show ("internal/strconv.powtab", Rows.laid_internal_strconv_powtab) ∈ _ by simp [Rows.fnNumberNoneRow]))
    (Lib.laidMet.reads h (show ("internal/strconv.float64pow10", Rows.laid_internal_strconv_float64pow10) ∈ _ by simp [Rows.fnNumberNoneRow]))
    (Lib.laidMet.reads h (show ("internal/strconv.pow10Tab", Rows.laid_internal_strconv_pow10Tab) ∈ _ by simp [Rows.fnNumberNoneRow]))
    (Lib.laidMet.reads h (show ("internal/strconv.leftcheats", Rows.laid_internal_strconv_leftcheats) ∈ _ by simp [Rows.fnNumberNoneRow]))
    (Lib.laidMet.reads h (show ("strconv.ErrSyntax", Rows.laid_strconv_ErrSyntax) ∈ _ by simp [Rows.fnNumberNoneRow]))
    (Lib.laidMet.reads h (show ("strconv.ErrRange", Rows.laid_strconv_ErrRange) ∈ _ by simp [Rows.fnNumberNoneRow]))

set_option maxRecDepth 100000 in
theorem lifted (os : Os) (started : os.Started) (H : Type) (enc : TypeId × Value → H) :
    ReturnsInHanded {} Tryz.checked os 7 .any (fun w args => (Rows.fnNumberNoneSpec.pre enc Tryz.prog Tryz.f7 Rows.fnNumberNoneRow.domain false w args ∧ laidMetH Tryz.prog Rows.fnNumberNoneRow.laid w) ∧ sizedMet enc Tryz.prog Tryz.f7 (OpenSpec.ofChange Rows.fnNumberNoneSpec) false w args)
      (Rows.fnNumberNoneSpec.post enc Tryz.prog Tryz.f7 false true false false) := by
  refine returnsInHanded_of_change_and (C := Tryz.checked) (X := fun w _ => laidMetH Tryz.prog Rows.fnNumberNoneRow.laid w) (fun _ _ _ hh h => h.of_heap hh) own started (by kernel_rfl) Tryz.func7
    (ChangeSpec.witness_shaped (enc := enc) (C := Tryz.checked) (os := os) (X := fun w _ => laidMetH Tryz.prog Rows.fnNumberNoneRow.laid w) false (World.laidAll Tryz.prog os Rows.fnNumberNoneRow.laid) #[.string ⟨#[]⟩] 8 (World.laidAll_os _ _ _)
      (World.shaped_of_ZipB (by kernel_rfl) (by kernel_rfl)) (by kernel_rfl) (by kernel_rfl) (by kernel_rfl)
      (by rw [MakeChecks.laidMetH_plain _ _ _ (by kernel_rfl)]; exact laidMet_laidAll _ (by kernel_rfl) (by kernel_rfl))) ?_
  intro W base args ds gs before hval0 hW _ _ hL _
  have hval : ∀ (j : Nat) t v, Tryz.f7.params[j]? = some t → args[j]? = some v → Value.okWide Tryz.prog W .any base t v := hval0
  have hW' := hW
  obtain ⟨p, q, hA0, hV, rfl, _, _⟩ := hW
  have hA : DataW.TrodAll enc Tryz.prog W 0 (fun _ => true) true Tryz.f7.params.toList args.toList ds p := hA0
  rw [Tryz.params7] at hA hval
  obtain ⟨v0, vs0, d0, ds0, p0, q0, hargs, rfl, rfl, h0, r0⟩ := trodAll_cons hA
  obtain ⟨rfl, rfl, rfl⟩ := trodAll_nil r0
  obtain rfl : args = #[v0] := by cases args; simp_all
  obtain ⟨rfl, rfl⟩ := trodVars_none hV
  obtain ⟨s0, rfl, rfl, rfl, ws0⟩ := open_string Tryz.underlying9 (hval 0 9 v0 rfl rfl) h0
  simp only [List.append_nil] at hW'
  refine (lawFnNumberNone s0 W ws0 (tabs_of hL)).mono fun e W' ⟨he, hb⟩ => ?_
  subst he
  exact ⟨_, rfl, _, _, _, [], [], [], hW', trodAll_cons_mk (shut_bool Tryz.underlying4 _) trodAll_mk0, (trodAll_cons_mk (shut_string Tryz.underlying9 ws0) trodAll_mk0), rfl, hb.frame _, fun h => by cases h⟩

theorem said : Rows.FnNumberNoneSaid :=
  OpenClaim.holds_of_wide 7 Tryz.f7 rfl rfl rfl rfl rfl rfl rfl ⟨rfl, rfl, rfl, rfl, rfl⟩ rfl rfl rfl rfl rfl (by kernel_rfl) Tryz.func7 joined
    (of_decide_eq_true (by kernel_rfl)) (by unfold Func.isWrapper; first | (rw [if_pos (by decide +kernel)]; kernel_rfl) | (rw [if_neg (by decide +kernel)]; exact ⟨rfl, rfl⟩))
    (fun os started H enc _ => lifted os started H enc)
theorem plain (f : FuncId) (fn : Func) (hf : Tryz.pinned.checked.prog.funcNamed "given.example/pub-palinode/laws.FnNumberNone" = some f) (hfn : Tryz.pinned.checked.prog.funcs[f]? = some fn) :
    true = Tryz.pinned.checked.prog.looks [] ∧ ∀ (j : Nat) t, fn.params[j]? = some t → Tryz.pinned.checked.prog.wantsStandIn t = false := by
  obtain rfl : f = 7 := Option.some.inj ((show Tryz.prog.funcNamed "given.example/pub-palinode/laws.FnNumberNone" = some 7 by kernel_rfl).symm.trans hf) |>.symm
  obtain rfl : fn = Tryz.f7 := (Option.some.inj (Tryz.func7.symm.trans hfn)).symm
  refine ⟨by kernel_rfl, fun j t ht => ?_⟩
  rw [Tryz.params7] at ht
  have hm : t ∈ [9] := by simpa using Array.mem_of_getElem? ht
  have hall : ([9].all fun u => !Tryz.prog.wantsStandIn u) = true := by kernel_rfl
  exact (show Tryz.prog.wantsStandIn t = false by simpa using List.all_eq_true.1 hall t hm)
theorem card : Rows.FnNumberNoneCardSaid :=
  Claim7.holds_tied_plain_at .later [] _ _ _ _ said (fun _ h => by cases h) (by kernel_rfl) (fun _ h => by cases h) fnNumberNone_row_tie rfl ⟨rfl, rfl⟩ (by kernel_rfl) rfl plain (by kernel_rfl)
#print axioms card
end FnNumberNone
end Go.Proofs.YtpjfmfaijcbopaaGreatDoor
