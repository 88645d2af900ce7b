/- internal/strconv.readFloat of a text with a byte that stands in no number, and not a p and an x. -/
import Derived.Test.YtpjfmfaijcbopaaGreatDoorRf
import Derived.Deep.CutBlock
import Derived.Outline
namespace Go.Proofs.YtpjfmfaijcbopaaGreatDoor
open Go.RowKit Go.Proofs

theorem results_tmp7 {fn : Func} {a b c d e f g : Tmp} (h : fn.results = #[.tmp a, .tmp b, .tmp c, .tmp d, .tmp e, .tmp f, .tmp g]) (tmps : Array Value) (P : Program) (w : World) :
    (results fn tmps).run P w = .ok (.tuple #[tmps.getD a undef, tmps.getD b undef, tmps.getD c undef, tmps.getD d undef, tmps.getD e undef, tmps.getD f undef, tmps.getD g undef]) w := by
  simp [results, h]
/-- What readFloat answers: where it is good, no hexadecimal number, and not the whole text was passed. -/
def RfEnd (s : ByteArray) (e : Ending) : Prop := ∃ (m x : Int) (ng tr hx : Bool) (i : Nat) (ok : Bool), e = .returned (.tuple #[.int .u64 m, .int .i64 x, .bool ng, .bool tr, .bool hx, .int .i64 i, .bool ok]) ∧
  i ≤ s.size ∧ (ok = true → hx = false ∧ i < s.size ∧ 0 ≤ m ∧ m < 18446744073709551616)
theorem RfEnd.no {s : ByteArray} {m x : Int} {ng tr hx : Bool} {i : Nat} (h : i ≤ s.size) : RfEnd s (.returned (.tuple #[.int .u64 m, .int .i64 x, .bool ng, .bool tr, .bool hx, .int .i64 i, .bool false])) := ⟨m, x, ng, tr, hx, i, false, rfl, h, fun h => (by cases h)⟩
theorem RfEnd.yes {s : ByteArray} {m x : Int} {ng tr : Bool} {i : Nat} (h : i ≤ s.size) (h1 : i < s.size) (h2 : 0 ≤ m) (h3 : m < 18446744073709551616) : RfEnd s (.returned (.tuple #[.int .u64 m, .int .i64 x, .bool ng, .bool tr, .bool false, .int .i64 i, .bool true])) := ⟨m, x, ng, tr, false, i, true, rfl, h, fun _ => ⟨rfl, h1, h2, h3⟩⟩
theorem wrapU_range (x : Int) : 0 ≤ IntKind.u64.wrap x ∧ IntKind.u64.wrap x < 18446744073709551616 := by
  rw [IntKind.wrap_u64]
  omega
/-- Bytes of a text, up to a place, that may stand in numbers. -/
def OkTo (s : ByteArray) (k : Nat) : Prop := ∀ j, j < k → okb (by' s j) = true
theorem OkTo.zero (s : ByteArray) : OkTo s 0 := fun j hj => by omega
theorem OkTo.succ {s : ByteArray} {k : Nat} (h : OkTo s k) (hk : okb (by' s k) = true) : OkTo s (k + 1) := fun j hj => by
  rcases Nat.lt_or_ge j k with h1 | h1
  · exact h j h1
  · obtain rfl : j = k := by omega
    exact hk
theorem badL_ofAll (s : ByteArray) (h : OkTo s s.size) : ∀ k, k ≤ s.size → badL (s.data.toList.take k) = false
  | 0, _ => rfl
  | k + 1, hk => by rw [badL_take s k (by omega), badL_ofAll s h k (by omega), h k (by omega)]; rfl
theorem OkTo.lt {s : ByteArray} {k : Nat} (hb : badL s.data.toList = true) (h : OkTo s k) (hk : k ≤ s.size) : k < s.size := by
  rcases Nat.lt_or_ge k s.size with h1 | h1
  · exact h1
  · obtain rfl : k = s.size := by omega
    have := badL_ofAll s h s.size (Nat.le_refl _)
    rw [List.take_of_length_le (by simp)] at this
    rw [hb] at this
    cases this
theorem px_no {s : ByteArray} {i j : Nat} (h : pxL s.data.toList = false) (hi : i < s.size) (hj : j < s.size) (hx : by' s i = 88 ∨ by' s i = 120) : by' s j ≠ 80 ∧ by' s j ≠ 112 := by
  have key : ∀ k, k < s.size → ∃ b ∈ s.data.toList, b.toNat = by' s k := fun k hk => by
    have hl : k < s.data.toList.length := by simpa using hk
    exact ⟨s.data.toList[k], List.getElem_mem hl, by unfold by'; rw [List.getD, List.getElem?_eq_getElem hl]; rfl⟩
  obtain ⟨x, hxm, hxv⟩ := key i hi
  obtain ⟨y, hym, hyv⟩ := key j hj
  unfold pxL at h
  rw [Bool.and_eq_false_iff, List.any_eq_false, List.any_eq_false] at h
  rcases h with h | h
  · have := h y hym
    simp only [Bool.or_eq_true, beq_iff_eq] at this
    omega
  · have := h x hxm
    simp only [Bool.or_eq_true, beq_iff_eq] at this
    omega

set_option maxRecDepth 100000 in
set_option maxHeartbeats 32000000 in
theorem read208 (s : ByteArray) (w : World) (hmax : s.size ≤ 4294967297) (hodd : Odd s.data.toList) : Calls Tryz.prog 208 #[.string s] w fun e w' => RfEnd s e ∧ w = w' := by
  have HI : Hid (∀ (t : ByteArray) (k : Nat) (hk : k < t.size) (w : World), (Instr.index 9 (.string t) (.int .i64 k)).run Tryz.prog w = .ok (.int .u8 (by' t k)) w) := Lib.hid idx_run
  have CL : Hid (∀ c : Nat, c < 256 → ∀ w, Calls Tryz.prog 222 #[.int .u8 c] w fun e w' => e = .returned (.int .u8 (lowN c)) ∧ w = w') := Lib.hid low222
  have CU : Hid (∀ (t : ByteArray) (w : World), t.size ≤ 4611686018427387904 → Calls Tryz.prog 241 #[.string t] w fun e w' => AnyB e ∧ w = w') := Lib.hid (fun t w h => under241 t w h)
  have HO := Lib.hid hodd
  have hp : 0 < s.size := badL_ne hodd.1
  have hpi : ¬ s = ByteArray.empty := fun h => by rw [h] at hp; exact absurd hp (by decide)
  have hpd : decide (s = ByteArray.empty) = false := decide_eq_false hpi
  clear hodd
  have h0 : ∀ w, (Instr.index 9 (.string s) (.int .i64 0)).run Tryz.prog w = .ok (.int .u8 (by' s 0)) w := fun w => HI.out s 0 hp w
  obtain ⟨c, hc⟩ : ∃ c, by' s 0 = c := ⟨_, rfl⟩
  have HC := Lib.hid hc
  rw [hc] at h0
  clear hc
  go_enter Tryz.func208, Tryz.ntmps208
  go_wp2_with fail
  go_step3
  go_upto_block 0 with fail
  go_cut [4, 7] (fun ng i wx => ∃ (g : Bool) (k : Nat), ng = .bool g ∧ i = .int .i64 k ∧ k ≤ 1 ∧ Hid (OkTo s k) ∧ w = wx)
  case first => as_aux_lemma =>
    go_wp2_with fail
    · rename_i hq
      go_meet
      exact ⟨false, 1, rfl, rfl, by omega, Lib.hid ((OkTo.zero s).succ (by rw [HC.out, show c = 43 by have := beq_iff_eq.1 hq; omega]; decide)), rfl⟩
    · rename_i hq
      go_meet
      exact ⟨true, 1, rfl, rfl, by omega, Lib.hid ((OkTo.zero s).succ (by rw [HC.out, show c = 45 by have := beq_iff_eq.1 hq; omega]; decide)), rfl⟩
    · go_meet
      exact ⟨false, 0, rfl, rfl, by omega, Lib.hid (OkTo.zero s), rfl⟩
  case rest => as_aux_lemma =>
    obtain ⟨g, k, rfl, rfl, hk1, HK, rfl⟩ := hcut
    clear h0 HC
    go_upto_region 12 with fail
    go_cut [54] (fun v wx => ∃ h : Bool, v = .bool h ∧ Hid (h = true → k + 2 < s.size ∧ by' s k = 48 ∧ (by' s (k + 1) = 88 ∨ by' s (k + 1) = 120)) ∧ w = wx)
    case first => as_aux_lemma =>
      by_cases h2 : k + 2 < s.size
      · have hi : (k : Int) + 2 < (s.size : Int) := by omega
        have i0 := fun w => HI.out s k (by omega) w
        have i1 : ∀ w, (Instr.index 9 (.string s) (.int .i64 ((k : Int) + 1))).run Tryz.prog w = .ok (.int .u8 (by' s (k + 1))) w := fun w => HI.out s (k + 1) (by omega) w
        have hd256 := by'_lt s (k + 1)
        obtain ⟨c, hc⟩ : ∃ c, by' s k = c := ⟨_, rfl⟩
        obtain ⟨d, hd⟩ : ∃ d, by' s (k + 1) = d := ⟨_, rfl⟩
        rw [hc] at i0
        rw [hd] at i1 hd256
        have HCD := Lib.hid (And.intro hc hd)
        have CC := Lib.hid (CL.out d hd256)
        have HX := Lib.hid (low_x d hd256)
        generalize lowN d = l at CC HX
        clear hc hd
        go_wp2_with (go_at_call 222; refine (CC.out _).mono ?_; rintro e w' ⟨rfl, rfl⟩)
        · rename_i hq
          go_meet
          refine ⟨_, rfl, Lib.hid (fun hh => ⟨h2, ?_, ?_⟩), rfl⟩
          · rw [HCD.out.1]
            omega
          · rw [HCD.out.2]
            have := beq_iff_eq.1 hh
            exact HX.out (by omega)
        · go_meet
          exact ⟨false, rfl, Lib.hid (fun h => (by cases h)), rfl⟩
      · have hi : ¬ (k : Int) + 2 < (s.size : Int) := by omega
        go_wp2_with fail
        go_meet
        exact ⟨false, rfl, Lib.hid (fun h => (by cases h)), rfl⟩
    case rest => as_aux_lemma =>
      obtain ⟨h, rfl, HH, rfl⟩ := hcut
      cases h
      · clear HH
        go_upto_block 1 with fail
        go_step3
        go_upto_block 1 with fail
        go_cut [2, 5, 7, 9, 13, 14, 15, 16, 17] (fun m tr i us sd sg nd nm dp wx => ∃ (M : Int) (TR : Bool) (K : Nat) (US SD SG : Bool) (ND NM : Nat) (DP : Int), m = .int .u64 M ∧ tr = .bool TR ∧ i = .int .i64 K ∧ us = .bool US ∧ sd = .bool SD ∧ sg = .bool SG ∧ nd = .int .i64 ND ∧ nm = .int .i64 NM ∧ dp = .int .i64 DP ∧ K ≤ s.size ∧ ND ≤ K ∧ NM ≤ K ∧ -(K : Int) ≤ DP ∧ DP ≤ K ∧ Hid (0 ≤ M ∧ M < 18446744073709551616 ∧ OkTo s K) ∧ w = wx)
        case first =>
          as_aux_lemma =>
            --B dloop
            go_wp2_with fail
            go_loopw [2, 5, 7, 9, 13, 14, 15, 16, 17] (fun m tr i us sd sg nd nm dp wx => ∃ (M : Int) (TR : Bool) (K : Nat) (US SD SG : Bool) (ND NM : Nat) (DP : Int), m = .int .u64 M ∧ tr = .bool TR ∧ i = .int .i64 K ∧ us = .bool US ∧ sd = .bool SD ∧ sg = .bool SG ∧ nd = .int .i64 ND ∧ nm = .int .i64 NM ∧ dp = .int .i64 DP ∧ K ≤ s.size ∧ ND ≤ K ∧ NM ≤ K ∧ -(K : Int) ≤ DP ∧ DP ≤ K ∧ Hid (0 ≤ M ∧ M < 18446744073709551616 ∧ OkTo s K) ∧ w = wx) (fun _ _ i _ _ _ _ _ _ _ => s.size - (intOf i).toNat)
            case atStart => exact ⟨0, false, k, false, false, false, 0, 0, 0, rfl, rfl, rfl, rfl, rfl, rfl, rfl, rfl, rfl, by omega, by omega, by omega, by omega, by omega, Lib.hid ⟨by omega, by omega, HK.out⟩, rfl⟩
            case round =>
              obtain ⟨M, TR, K, US, SD, SG, ND, NM, DP, rfl, rfl, rfl, rfl, rfl, rfl, rfl, rfl, rfl, hK, hND, hNM, hD1, hD2, HM, rfl⟩ := hrel
              by_cases hlt : K < s.size
              · have hi : (K : Int) < (s.size : Int) := by omega
                have ix := fun w => HI.out s K hlt w
                have hc256 := by'_lt s K
                obtain ⟨c, hc⟩ : ∃ c, by' s K = c := ⟨_, rfl⟩
                rw [hc] at ix hc256
                have HOK : Hid (okb c = true → OkTo s (K + 1)) := Lib.hid (fun h => HM.out.2.2.succ (by rw [hc]; exact h))
                clear hc
                by_cases h95 : c = 95
                · subst h95
                  have HO1 := Lib.hid (HOK.out (by decide))
                  go_wp2_with fail
                  go_roundw
                  case rel => exact ⟨M, TR, K + 1, true, SD, SG, ND, NM, DP, rfl, rfl, by go_num, rfl, rfl, rfl, rfl, rfl, rfl, by omega, by omega, by omega, by omega, by omega, Lib.hid ⟨HM.out.1, HM.out.2.1, HO1.out⟩, by trivial⟩
                  case measure => simp [intOf]; omega
                by_cases h46 : c = 46
                · subst h46
                  have HO1 := Lib.hid (HOK.out (by decide))
                  cases SD
                  · go_wp2_with fail
                    go_roundw
                    case rel => exact ⟨M, TR, K + 1, US, true, SG, ND, NM, ND, rfl, rfl, by go_num, rfl, rfl, rfl, rfl, rfl, rfl, by omega, by omega, by omega, by omega, by omega, Lib.hid ⟨HM.out.1, HM.out.2.1, HO1.out⟩, by trivial⟩
                    case measure => simp [intOf]; omega
                  · go_wp2_with fail
                    go_meet
                    exact ⟨M, TR, K, US, true, SG, ND, NM, DP, rfl, rfl, rfl, rfl, rfl, rfl, rfl, rfl, rfl, hK, hND, hNM, hD1, hD2, HM, rfl⟩
                have q95 : ((c : Int) == 95) = false := by rw [beq_eq_false_iff_ne]; omega
                have q46 : ((c : Int) == 46) = false := by rw [beq_eq_false_iff_ne]; omega
                by_cases hdg : 48 ≤ c ∧ c ≤ 57
                · obtain ⟨hd1, hd2⟩ := hdg
                  have hd3 : (48 : Int) ≤ (c : Int) := by omega
                  have hd4 : (c : Int) ≤ 57 := by omega
                  have HO1 := Lib.hid (HOK.out (okb_dig c hc256 hd1 hd2))
                  by_cases hn0 : c = 48 ∧ ND = 0
                  · obtain ⟨rfl, rfl⟩ := hn0
                    go_wp2_with fail
                    go_roundw
                    case rel => exact ⟨M, TR, K + 1, US, SD, true, 0, NM, DP - 1, rfl, rfl, by go_num, rfl, rfl, rfl, rfl, rfl, rfl, by omega, by omega, by omega, by omega, by omega, Lib.hid ⟨HM.out.1, HM.out.2.1, HO1.out⟩, by trivial⟩
                    case measure => simp [intOf]; omega
                  · by_cases hnm : NM < 19
                    · have hnmi : (NM : Int) < 19 := by omega
                      by_cases hc48 : c = 48
                      · subst hc48
                        have hnd : ((ND : Int) == 0) = false := by rw [beq_eq_false_iff_ne]; omega
                        go_wp2_with fail
                        go_roundw
                        case rel => exact ⟨_, TR, K + 1, US, SD, true, ND + 1, NM + 1, DP, rfl, rfl, by go_num, rfl, rfl, rfl, by go_num, by go_num, rfl, by omega, by omega, by omega, by omega, by omega, Lib.hid ⟨(wrapU_range _).1, (wrapU_range _).2, HO1.out⟩, by trivial⟩
                        case measure => simp [intOf]; omega
                      · have q48 : ((c : Int) == 48) = false := by rw [beq_eq_false_iff_ne]; omega
                        go_wp2_with fail
                        go_roundw
                        case rel => exact ⟨_, TR, K + 1, US, SD, true, ND + 1, NM + 1, DP, rfl, rfl, by go_num, rfl, rfl, rfl, by go_num, by go_num, rfl, by omega, by omega, by omega, by omega, by omega, Lib.hid ⟨(wrapU_range _).1, (wrapU_range _).2, HO1.out⟩, by trivial⟩
                        case measure => simp [intOf]; omega
                    · have hnmi : ¬ (NM : Int) < 19 := by omega
                      by_cases hc48 : c = 48
                      · subst hc48
                        have hnd : ((ND : Int) == 0) = false := by rw [beq_eq_false_iff_ne]; omega
                        go_wp2_with fail
                        go_roundw
                        case rel => exact ⟨M, TR, K + 1, US, SD, true, ND + 1, NM, DP, rfl, rfl, by go_num, rfl, rfl, rfl, by go_num, rfl, rfl, by omega, by omega, by omega, by omega, by omega, Lib.hid ⟨HM.out.1, HM.out.2.1, HO1.out⟩, by trivial⟩
                        case measure => simp [intOf]; omega
                      · have q48 : ((c : Int) == 48) = false := by rw [beq_eq_false_iff_ne]; omega
                        have q48n : ((c : Int) != 48) = true := by simp; omega
                        go_wp2_with fail
                        go_roundw
                        case rel => exact ⟨M, true, K + 1, US, SD, true, ND + 1, NM, DP, rfl, rfl, by go_num, rfl, rfl, rfl, by go_num, rfl, rfl, by omega, by omega, by omega, by omega, by omega, Lib.hid ⟨HM.out.1, HM.out.2.1, HO1.out⟩, by trivial⟩
                        case measure => simp [intOf]; omega
                · have hout : ¬ (48 : Int) ≤ (c : Int) ∨ ((48 : Int) ≤ (c : Int) ∧ ¬ (c : Int) ≤ 57) := by omega
                  rcases hout with ho | ⟨ho1, ho2⟩
                  all_goals
                    go_wp2_with fail
                    go_meet
                    exact ⟨M, TR, K, US, SD, SG, ND, NM, DP, rfl, rfl, rfl, rfl, rfl, rfl, rfl, rfl, rfl, hK, hND, hNM, hD1, hD2, HM, rfl⟩
              · have hi : ¬ (K : Int) < (s.size : Int) := by omega
                go_wp2_with fail
                go_meet
                exact ⟨M, TR, K, US, SD, SG, ND, NM, DP, rfl, rfl, rfl, rfl, rfl, rfl, rfl, rfl, rfl, hK, hND, hNM, hD1, hD2, HM, rfl⟩
            --E dloop
        case rest => as_aux_lemma =>
          obtain ⟨M, TR, K, US, SD, SG, ND, NM, DP, rfl, rfl, rfl, rfl, rfl, rfl, rfl, rfl, rfl, hK, hND, hNM, hD1, hD2, HM, rfl⟩ := hcut
          cases SG
          · as_aux_lemma =>
              go_wp2_with fail
              try rw [Exit.noGoto_ret]
              refine bodyPost_ret (results_tmp7 rfl _ _ _) rfl ?_
              exact ⟨RfEnd.no hK, rfl⟩
          go_upto_if 142 with fail
          go_cut [17] (fun dp wx => ∃ DP : Int, dp = .int .i64 DP ∧ -(K : Int) ≤ DP ∧ DP ≤ K ∧ w = wx)
          case first =>
            as_aux_lemma =>
              cases SD
              all_goals
                go_wp2_with fail
                go_meet
                exact ⟨_, rfl, by omega, by omega, rfl⟩
          case rest => as_aux_lemma =>
            clear hD1 hD2
            obtain ⟨DP2, rfl, hD1, hD2, rfl⟩ := hcut
            go_upto_region 57 with fail
            go_cut [161] (fun v wx => ∃ b : Bool, v = .bool b ∧ Hid (b = true → K < s.size ∧ OkTo s (K + 1)) ∧ w = wx)
            case first =>
              as_aux_lemma =>
                by_cases hlt : K < s.size
                · have hi : (K : Int) < (s.size : Int) := by omega
                  have ix := fun w => HI.out s K hlt w
                  have hc256 := by'_lt s K
                  obtain ⟨c, hc⟩ : ∃ c, by' s K = c := ⟨_, rfl⟩
                  rw [hc] at ix hc256
                  have CC := Lib.hid (CL.out c hc256)
                  have HE : Hid (lowN c = 101 → OkTo s (K + 1)) := Lib.hid (fun h => HM.out.2.2.succ (by
                    rw [hc]
                    rcases low_e c hc256 h with rfl | rfl
                    all_goals decide))
                  generalize lowN c = l at CC HE
                  clear hc
                  go_wp2_with (go_at_call 222; refine (CC.out _).mono ?_; rintro e w' ⟨rfl, rfl⟩)
                  go_meet
                  exact ⟨_, rfl, Lib.hid (fun h => ⟨hlt, HE.out (by have := beq_iff_eq.1 h; omega)⟩), rfl⟩
                · have hi : ¬ (K : Int) < (s.size : Int) := by omega
                  go_wp2_with fail
                  go_meet
                  exact ⟨false, rfl, Lib.hid (fun h => (by cases h)), rfl⟩
            case rest => as_aux_lemma =>
              obtain ⟨b, rfl, HBE, rfl⟩ := hcut
              go_upto_if 161 with fail
              go_cut [7, 9, 17] (fun i us dp wx => ∃ (K2 : Nat) (U : Bool) (DP : Int), i = .int .i64 K2 ∧ us = .bool U ∧ dp = .int .i64 DP ∧ K2 ≤ s.size ∧ -5000000000 ≤ DP ∧ DP ≤ 5000000000 ∧ Hid (OkTo s K2) ∧ w = wx)
              case first => as_aux_lemma =>
                cases b
                · as_aux_lemma =>
                    go_wp2_with fail
                    go_meet
                    exact ⟨K, US, DP2, rfl, rfl, rfl, hK, by omega, by omega, Lib.hid HM.out.2.2, rfl⟩
                obtain ⟨hKs, HOK1⟩ := HBE.out rfl
                have HO1 := Lib.hid HOK1
                clear HOK1 HBE
                by_cases hK1 : K + 1 < s.size
                · have hi1 : ¬ (s.size : Int) ≤ (K : Int) + 1 := by omega
                  have ix : ∀ w, (Instr.index 9 (.string s) (.int .i64 ((K : Int) + 1))).run Tryz.prog w = .ok (.int .u8 (by' s (K + 1))) w := fun w => HI.out s (K + 1) hK1 w
                  obtain ⟨c, hc⟩ : ∃ c, by' s (K + 1) = c := ⟨_, rfl⟩
                  rw [hc] at ix
                  have HC := Lib.hid hc
                  clear hc
                  go_upto_block 4 with fail
                  go_cut [7, 19] (fun i es wx => ∃ (K3 : Nat) (E : Int), i = .int .i64 K3 ∧ es = .int .i64 E ∧ (E = 1 ∨ E = -1) ∧ K3 ≤ s.size ∧ Hid (OkTo s K3) ∧ w = wx)
                  case first =>
                    as_aux_lemma =>
                      go_wp2_with fail
                      · rename_i hq
                        go_meet
                        exact ⟨K + 2, 1, by go_num, rfl, .inl rfl, by omega, Lib.hid (HO1.out.succ (by rw [HC.out, show c = 43 by have := beq_iff_eq.1 hq; omega]; decide)), rfl⟩
                      · rename_i hq
                        go_meet
                        exact ⟨K + 2, -1, by go_num, rfl, .inr rfl, by omega, Lib.hid (HO1.out.succ (by rw [HC.out, show c = 45 by have := beq_iff_eq.1 hq; omega]; decide)), rfl⟩
                      · go_meet
                        exact ⟨K + 1, 1, by go_num, rfl, .inl rfl, by omega, HO1, rfl⟩
                  case rest => as_aux_lemma =>
                    clear ix HC
                    obtain ⟨K3, E, rfl, rfl, hE, hK3, HO3, rfl⟩ := hcut
                    by_cases hlt3 : K3 < s.size
                    · have hi3 : ¬ (s.size : Int) ≤ (K3 : Int) := by omega
                      have ix := fun w => HI.out s K3 hlt3 w
                      obtain ⟨c, hc⟩ : ∃ c, by' s K3 = c := ⟨_, rfl⟩
                      rw [hc] at ix
                      clear hc
                      by_cases hdg : 48 ≤ c ∧ c ≤ 57
                      · obtain ⟨hd1, hd2⟩ := hdg
                        have hd3 : ¬ (c : Int) < 48 := by omega
                        have hd4 : ¬ 57 < (c : Int) := by omega
                        go_wp2_with fail
                        go_loopw [7, 9, 20] (fun i us e wr => ∃ (K4 : Nat) (U : Bool) (E4 : Nat), i = .int .i64 K4 ∧ us = .bool U ∧ e = .int .i64 E4 ∧ K4 ≤ s.size ∧ E4 ≤ 100009 ∧ Hid (OkTo s K4) ∧ w = wr) (fun i _ _ _ => s.size - (intOf i).toNat)
                        case atStart => exact ⟨K3, US, 0, rfl, rfl, rfl, hK3, by omega, HO3, rfl⟩
                        case round =>
                          clear ix hd1 hd2 hd3 hd4 hi3 hlt3
                          obtain ⟨K4, U, E4, rfl, rfl, rfl, hK4, hE4, HO4, rfl⟩ := hrel
                          by_cases hlt4 : K4 < s.size
                          · have hi4 : (K4 : Int) < (s.size : Int) := by omega
                            have ix := fun w => HI.out s K4 hlt4 w
                            have hc256 := by'_lt s K4
                            obtain ⟨c, hc⟩ : ∃ c, by' s K4 = c := ⟨_, rfl⟩
                            rw [hc] at ix hc256
                            have HOK : Hid (okb c = true → OkTo s (K4 + 1)) := Lib.hid (fun h => HO4.out.succ (by rw [hc]; exact h))
                            clear hc
                            by_cases h95 : c = 95
                            · subst h95
                              have HO5 := Lib.hid (HOK.out (by decide))
                              as_aux_lemma =>
                                go_wp2_with fail
                                go_roundw
                                case rel => exact ⟨K4 + 1, true, E4, by go_num, rfl, rfl, by omega, hE4, HO5, by trivial⟩
                                case measure => simp [intOf]; omega
                            by_cases hdg : 48 ≤ c ∧ c ≤ 57
                            · obtain ⟨hd1, hd2⟩ := hdg
                              have hd3 : (48 : Int) ≤ (c : Int) := by omega
                              have hd4 : (c : Int) ≤ 57 := by omega
                              have HO5 := Lib.hid (HOK.out (okb_dig c hc256 hd1 hd2))
                              have q95 : ((c : Int) == 95) = false := by rw [beq_eq_false_iff_ne]; omega
                              by_cases he : E4 < 10000
                              · have hei : (E4 : Int) < 10000 := by omega
                                as_aux_lemma =>
                                  go_wp2_with fail
                                  go_roundw
                                  case rel => exact ⟨K4 + 1, U, E4 * 10 + c - 48, by go_num, rfl, congrArg (Value.int .i64) (by omega), by omega, by omega, HO5, by trivial⟩
                                  case measure => simp [intOf]; omega
                              · have hei : ¬ (E4 : Int) < 10000 := by omega
                                as_aux_lemma =>
                                  go_wp2_with fail
                                  go_roundw
                                  case rel => exact ⟨K4 + 1, U, E4, by go_num, rfl, rfl, by omega, hE4, HO5, by trivial⟩
                                  case measure => simp [intOf]; omega
                            · have q95 : ((c : Int) == 95) = false := by rw [beq_eq_false_iff_ne]; omega
                              have hout : ¬ (48 : Int) ≤ (c : Int) ∨ ((48 : Int) ≤ (c : Int) ∧ ¬ (c : Int) ≤ 57) := by omega
                              rcases hE with rfl | rfl
                              all_goals
                                rcases hout with ho | ⟨ho1, ho2⟩
                                all_goals
                                  as_aux_lemma =>
                                    go_wp2_with fail
                                    go_meet
                                    exact ⟨K4, U, _, rfl, rfl, rfl, hK4, by omega, by omega, HO4, rfl⟩
                          · have hi4 : ¬ (K4 : Int) < (s.size : Int) := by omega
                            rcases hE with rfl | rfl
                            all_goals
                              as_aux_lemma =>
                                go_wp2_with fail
                                go_meet
                                exact ⟨K4, U, _, rfl, rfl, rfl, hK4, by omega, by omega, HO4, rfl⟩
                      · have hout : (c : Int) < 48 ∨ (¬ (c : Int) < 48 ∧ 57 < (c : Int)) := by omega
                        rcases hout with ho | ⟨ho1, ho2⟩
                        all_goals
                          as_aux_lemma =>
                            go_wp2_with fail
                            try rw [Exit.noGoto_ret]
                            refine bodyPost_ret (results_tmp7 rfl _ _ _) rfl ?_
                            exact ⟨RfEnd.no hK3, rfl⟩
                    · have hi3 : (s.size : Int) ≤ (K3 : Int) := by omega
                      as_aux_lemma =>
                        go_wp2_with fail
                        try rw [Exit.noGoto_ret]
                        refine bodyPost_ret (results_tmp7 rfl _ _ _) rfl ?_
                        exact ⟨RfEnd.no hK3, rfl⟩
                · have hi1 : (s.size : Int) ≤ (K : Int) + 1 := by omega
                  as_aux_lemma =>
                    go_wp2_with fail
                    try rw [Exit.noGoto_ret]
                    refine bodyPost_ret (results_tmp7 rfl _ _ _) rfl ?_
                    exact ⟨RfEnd.no (i := K + 1) (by omega), rfl⟩
              case rest => as_aux_lemma =>
                obtain ⟨K2, U, DP3, rfl, rfl, rfl, hK2, hP1, hP2, HO2, rfl⟩ := hcut
                have HFIN : Hid (K2 < s.size) := Lib.hid (HO2.out.lt HO.out.1 hK2)
                have hsl : (K2 : Int) ≤ (s.size : Int) := by omega
                have CUU := Lib.hid (CU.out (s.extract 0 K2) w (by rw [ByteArray.size_extract]; omega))
                clear hND hD1 hD2 HBE
                cases U
                · as_aux_lemma =>
                    go_wp2_with fail
                    all_goals
                      try rw [Exit.noGoto_ret]
                      refine bodyPost_ret (results_tmp7 rfl _ _ _) rfl ?_
                      exact ⟨RfEnd.yes hK2 HFIN.out HM.out.1 HM.out.2.1, rfl⟩
                · as_aux_lemma =>
                    go_wp2_with (go_at_call 241; refine CUU.out.mono ?_; rintro e w' ⟨⟨v, rfl⟩, rfl⟩)
                    all_goals
                      try rw [Exit.noGoto_ret]
                      refine bodyPost_ret (results_tmp7 rfl _ _ _) rfl ?_
                      first
                        | exact ⟨RfEnd.yes hK2 HFIN.out HM.out.1 HM.out.2.1, rfl⟩
                        | exact ⟨RfEnd.no hK2, rfl⟩
      · have hHX := HH.out rfl
        have HPX : Hid (∀ j, j < s.size → by' s j ≠ 80 ∧ by' s j ≠ 112) := Lib.hid (fun j hj => px_no HO.out.2 (show k + 1 < s.size by omega) hj hHX.2.2)
        have hk3 : k + 2 ≤ s.size := by omega
        clear HH hHX HK
        go_upto_block 1 with fail
        go_step3
        go_upto_block 1 with fail
        go_cut [2, 5, 7, 9, 13, 14, 15, 16, 17] (fun m tr i us sd sg nd nm dp wx => ∃ (M : Int) (TR : Bool) (K : Nat) (US SD SG : Bool) (ND NM : Nat) (DP : Int), m = .int .u64 M ∧ tr = .bool TR ∧ i = .int .i64 K ∧ us = .bool US ∧ sd = .bool SD ∧ sg = .bool SG ∧ nd = .int .i64 ND ∧ nm = .int .i64 NM ∧ dp = .int .i64 DP ∧ K ≤ s.size ∧ ND ≤ K ∧ NM ≤ K ∧ -(K : Int) ≤ DP ∧ DP ≤ K ∧ Hid (True) ∧ w = wx)
        case first =>
          as_aux_lemma =>
            --B hloop
            go_wp2_with fail
            go_loopw [2, 5, 7, 9, 13, 14, 15, 16, 17] (fun m tr i us sd sg nd nm dp wx => ∃ (M : Int) (TR : Bool) (K : Nat) (US SD SG : Bool) (ND NM : Nat) (DP : Int), m = .int .u64 M ∧ tr = .bool TR ∧ i = .int .i64 K ∧ us = .bool US ∧ sd = .bool SD ∧ sg = .bool SG ∧ nd = .int .i64 ND ∧ nm = .int .i64 NM ∧ dp = .int .i64 DP ∧ K ≤ s.size ∧ ND ≤ K ∧ NM ≤ K ∧ -(K : Int) ≤ DP ∧ DP ≤ K ∧ Hid (True) ∧ w = wx) (fun _ _ i _ _ _ _ _ _ _ => s.size - (intOf i).toNat)
            case atStart => exact ⟨0, false, k + 2, false, false, false, 0, 0, 0, rfl, rfl, by go_num, rfl, rfl, rfl, rfl, rfl, rfl, by omega, by omega, by omega, by omega, by omega, Lib.hid trivial, rfl⟩
            case round =>
              obtain ⟨M, TR, K, US, SD, SG, ND, NM, DP, rfl, rfl, rfl, rfl, rfl, rfl, rfl, rfl, rfl, hK, hND, hNM, hD1, hD2, HM, rfl⟩ := hrel
              by_cases hlt : K < s.size
              · have hi : (K : Int) < (s.size : Int) := by omega
                have ix := fun w => HI.out s K hlt w
                have hc256 := by'_lt s K
                obtain ⟨c, hc⟩ : ∃ c, by' s K = c := ⟨_, rfl⟩
                rw [hc] at ix hc256
                have CC := Lib.hid (CL.out c hc256)
                have hl256 := low_lt c hc256
                generalize lowN c = l at CC hl256
                clear hc
                by_cases h95 : c = 95
                · subst h95
                  as_aux_lemma =>
                    go_wp2_with fail
                    go_roundw
                    case rel => exact ⟨M, TR, K + 1, true, SD, SG, ND, NM, DP, rfl, rfl, by go_num, rfl, rfl, rfl, rfl, rfl, rfl, by omega, by omega, by omega, by omega, by omega, HM, by trivial⟩
                    case measure => simp [intOf]; omega
                by_cases h46 : c = 46
                · subst h46
                  cases SD
                  · as_aux_lemma =>
                      go_wp2_with fail
                      go_roundw
                      case rel => exact ⟨M, TR, K + 1, US, true, SG, ND, NM, ND, rfl, rfl, by go_num, rfl, rfl, rfl, rfl, rfl, rfl, by omega, by omega, by omega, by omega, by omega, HM, by trivial⟩
                      case measure => simp [intOf]; omega
                  · as_aux_lemma =>
                      go_wp2_with fail
                      go_meet
                      exact ⟨M, TR, K, US, true, SG, ND, NM, DP, rfl, rfl, rfl, rfl, rfl, rfl, rfl, rfl, rfl, hK, hND, hNM, hD1, hD2, HM, rfl⟩
                have q95 : ((c : Int) == 95) = false := by rw [beq_eq_false_iff_ne]; omega
                have q46 : ((c : Int) == 46) = false := by rw [beq_eq_false_iff_ne]; omega
                by_cases hdg : 48 ≤ c ∧ c ≤ 57
                · obtain ⟨hd1, hd2⟩ := hdg
                  have hd3 : (48 : Int) ≤ (c : Int) := by omega
                  have hd4 : (c : Int) ≤ 57 := by omega
                  by_cases hn0 : c = 48 ∧ ND = 0
                  · obtain ⟨rfl, rfl⟩ := hn0
                    as_aux_lemma =>
                      go_wp2_with fail
                      go_roundw
                      case rel => exact ⟨M, TR, K + 1, US, SD, true, 0, NM, DP - 1, rfl, rfl, by go_num, rfl, rfl, rfl, rfl, rfl, rfl, by omega, by omega, by omega, by omega, by omega, HM, by trivial⟩
                      case measure => simp [intOf]; omega
                  · have hnm : (NM : Int) < 16 ∨ ¬ (NM : Int) < 16 := by omega
                    have h48 : c = 48 ∨ c ≠ 48 := by omega
                    rcases hnm with hnm | hnm
                    all_goals
                      rcases h48 with rfl | h48
                      · have hnd : ((ND : Int) == 0) = false := by rw [beq_eq_false_iff_ne]; omega
                        as_aux_lemma =>
                          go_wp2_with fail
                          go_roundw
                          case rel => first
                            | exact ⟨_, TR, K + 1, US, SD, true, ND + 1, NM + 1, DP, rfl, rfl, by go_num, rfl, rfl, rfl, by go_num, by go_num, rfl, by omega, by omega, by omega, by omega, by omega, HM, by trivial⟩
                            | exact ⟨_, TR, K + 1, US, SD, true, ND + 1, NM, DP, rfl, rfl, by go_num, rfl, rfl, rfl, by go_num, rfl, rfl, by omega, by omega, by omega, by omega, by omega, HM, by trivial⟩
                          case measure => simp [intOf]; omega
                      · have q48 : ((c : Int) == 48) = false := by rw [beq_eq_false_iff_ne]; omega
                        have q48n : ((c : Int) != 48) = true := by simp; omega
                        as_aux_lemma =>
                          go_wp2_with fail
                          go_roundw
                          case rel => first
                            | exact ⟨_, TR, K + 1, US, SD, true, ND + 1, NM + 1, DP, rfl, rfl, by go_num, rfl, rfl, rfl, by go_num, by go_num, rfl, by omega, by omega, by omega, by omega, by omega, HM, by trivial⟩
                            | exact ⟨_, true, K + 1, US, SD, true, ND + 1, NM, DP, rfl, rfl, by go_num, rfl, rfl, rfl, by go_num, rfl, rfl, by omega, by omega, by omega, by omega, by omega, HM, by trivial⟩
                          case measure => simp [intOf]; omega
                · have hlet : (97 : Int) ≤ (l : Int) ∧ (l : Int) ≤ 102 ∨ (97 : Int) ≤ (l : Int) ∧ ¬ (l : Int) ≤ 102 ∨ ¬ (97 : Int) ≤ (l : Int) := by omega
                  have hout : ¬ (48 : Int) ≤ (c : Int) ∨ ((48 : Int) ≤ (c : Int) ∧ ¬ (c : Int) ≤ 57) := by omega
                  have hnm : (NM : Int) < 16 ∨ ¬ (NM : Int) < 16 := by omega
                  rcases hout with ho | ⟨ho1, ho2⟩
                  all_goals
                    rcases hlet with ⟨hl1, hl2⟩ | ⟨hl1, hl2⟩ | hl1
                    · rcases hnm with hnm | hnm
                      all_goals
                        as_aux_lemma =>
                          go_wp2_with (go_at_call 222; refine (CC.out _).mono ?_; rintro e w' ⟨rfl, rfl⟩)
                          go_roundw
                          case rel => first
                            | exact ⟨_, TR, K + 1, US, SD, true, ND + 1, NM + 1, DP, rfl, rfl, by go_num, rfl, rfl, rfl, by go_num, by go_num, rfl, by omega, by omega, by omega, by omega, by omega, HM, by trivial⟩
                            | exact ⟨_, true, K + 1, US, SD, true, ND + 1, NM, DP, rfl, rfl, by go_num, rfl, rfl, rfl, by go_num, rfl, rfl, by omega, by omega, by omega, by omega, by omega, HM, by trivial⟩
                          case measure => simp [intOf]; omega
                    all_goals
                      as_aux_lemma =>
                        go_wp2_with (go_at_call 222; refine (CC.out _).mono ?_; rintro e w' ⟨rfl, rfl⟩)
                        go_meet
                        exact ⟨M, TR, K, US, SD, SG, ND, NM, DP, rfl, rfl, rfl, rfl, rfl, rfl, rfl, rfl, rfl, hK, hND, hNM, hD1, hD2, HM, rfl⟩
              · have hi : ¬ (K : Int) < (s.size : Int) := by omega
                as_aux_lemma =>
                  go_wp2_with fail
                  go_meet
                  exact ⟨M, TR, K, US, SD, SG, ND, NM, DP, rfl, rfl, rfl, rfl, rfl, rfl, rfl, rfl, rfl, hK, hND, hNM, hD1, hD2, HM, rfl⟩
            --E hloop
        case rest => as_aux_lemma =>
          obtain ⟨M, TR, K, US, SD, SG, ND, NM, DP, rfl, rfl, rfl, rfl, rfl, rfl, rfl, rfl, rfl, hK, hND, hNM, hD1, hD2, HM, rfl⟩ := hcut
          cases SG
          · as_aux_lemma =>
              go_wp2_with fail
              try rw [Exit.noGoto_ret]
              refine bodyPost_ret (results_tmp7 rfl _ _ _) rfl ?_
              exact ⟨RfEnd.no hK, rfl⟩
          go_upto_if 142 with fail
          go_cut [17] (fun dp wx => ∃ DP : Int, dp = .int .i64 DP ∧ -(K : Int) ≤ DP ∧ DP ≤ K ∧ w = wx)
          case first =>
            as_aux_lemma =>
              cases SD
              all_goals
                go_wp2_with fail
                go_meet
                exact ⟨_, rfl, by omega, by omega, rfl⟩
          case rest => as_aux_lemma =>
            clear hD1 hD2
            obtain ⟨DP2, rfl, hD1, hD2, rfl⟩ := hcut
            by_cases hlt : K < s.size
            · have hi : (K : Int) < (s.size : Int) := by omega
              have ix := fun w => HI.out s K hlt w
              have hc256 := by'_lt s K
              have hnp := HPX.out K hlt
              obtain ⟨c, hc⟩ : ∃ c, by' s K = c := ⟨_, rfl⟩
              rw [hc] at ix hc256 hnp
              have CC := Lib.hid (CL.out c hc256)
              have hl : ((lowN c : Nat) : Int) ≠ 112 := fun h => by
                rcases low_p c hc256 (by omega) with h2 | h2
                · exact hnp.1 h2
                · exact hnp.2 h2
              have hlb : (((lowN c : Nat) : Int) == 112) = false := by rw [beq_eq_false_iff_ne]; exact hl
              generalize lowN c = l at CC hl hlb
              clear hc hl
              as_aux_lemma =>
                go_wp2_with (go_at_call 222; refine (CC.out _).mono ?_; rintro e w' ⟨rfl, rfl⟩)
                try rw [Exit.noGoto_ret]
                refine bodyPost_ret (results_tmp7 rfl _ _ _) rfl ?_
                exact ⟨RfEnd.no hK, rfl⟩
            · have hi : ¬ (K : Int) < (s.size : Int) := by omega
              as_aux_lemma =>
                go_wp2_with fail
                try rw [Exit.noGoto_ret]
                refine bodyPost_ret (results_tmp7 rfl _ _ _) rfl ?_
                exact ⟨RfEnd.no hK, rfl⟩
end Go.Proofs.YtpjfmfaijcbopaaGreatDoor
