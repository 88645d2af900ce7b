/- The walk of internal/strconv.rightShift. -/
import Derived.Test.YtpjfmfaijcbopaaGreatDoorRs
namespace Go.Proofs.YtpjfmfaijcbopaaGreatDoor
open Go.RowKit Go.Proofs

/-- What a right shift leaves. -/
def RsEnd (d : Dec) (b k : Nat) (w w' : World) : Prop := ∃ d' : Dec, DecAt w' b d' ∧ d'.ok ∧ d'.ng = d.ng ∧ (∃ r : Nat, 1 ≤ r ∧ r ≤ 1000 ∧ d'.dp = d.dp - ((r : Int) - 1) ∧ (r = 1 → 2 ^ k ≤ d.b 0 - 48 ∧ d'.b 0 - 48 = (d.b 0 - 48) / 2 ^ k)) ∧ Below b w w'

set_option maxRecDepth 100000 in
set_option maxHeartbeats 16000000 in
theorem right235 (b k : Nat) (d : Dec) (w : World) (h : DecAt w b d) (hok : d.ok) (hk1 : 1 ≤ k) (hk2 : k ≤ 60) (hdp0 : -1000000000000 ≤ d.dp) (hdp1 : d.dp ≤ 1000000000000) :
    Calls Tryz.prog 235 #[.pointer (some ⟨b, 0, none⟩), .int .u64 k] w fun e w' => e = .returned (.tuple #[]) ∧ RsEnd d b k w w' := by
  have hle := hok.le
  have hpos := hok.pos
  have c800 := h.cnd
  have c801 := h.cdp
  have f801 := h.free 801
  obtain ⟨nd, hnd⟩ : ∃ nd, d.nd = nd := ⟨_, rfl⟩
  have H := Lib.hid h
  have HOK := Lib.hid hok
  have HND := Lib.hid hnd
  have hcd : Hid (∀ i, i < nd → w.cell? ⟨b, i, none⟩ = some (.int .u8 (d.b i))) := Lib.hid (fun i hi => h.cd i (by omega))
  rw [hnd] at c800 hle hpos
  obtain ⟨p, hp⟩ : ∃ p, 2 ^ k = p := ⟨_, rfl⟩
  have hp60 : p ≤ 1152921504606846976 := by rw [← hp]; exact Nat.pow_le_pow_right (n := 2) (by omega) hk2
  have hpp : 0 < p := by rw [← hp]; exact Nat.pow_pos (by omega)
  have HDIV : Hid (∀ m : Nat, (m : Int) / 2 ^ k = ((m / p : Nat) : Int)) := Lib.hid (fun m => by rw [← hp]; push_cast; rfl)
  clear h hok hnd
  go_enter Tryz.func235, Tryz.ntmps235
  go_upto_block 0 with fail
  go_cut [4, 6] (fun r n wx => ∃ q m : Nat, r = .int .i64 q ∧ n = .int .u64 m ∧ w = wx ∧ 1 ≤ q ∧ q ≤ 1000 ∧ p ≤ m ∧ m < 10 * p ∧ Hid (q = 1 → m = d.b 0 - 48))
  case first =>
    go_wp2_with fail
    go_loopw [4, 6] (fun r n wx => ∃ q m : Nat, q ≤ nd ∧ r = .int .i64 q ∧ n = .int .u64 m ∧ w = wx ∧ m < 10 * p ∧ Hid (m = dval (d.ds.take q))) (fun r _ _ => nd - (intOf r).toNat)
    case atStart => exact ⟨0, 0, by omega, rfl, rfl, rfl, by omega, Lib.hid rfl⟩
    case round =>
      obtain ⟨q, m, hq, rfl, rfl, rfl, hm, HM⟩ := hrel
      by_cases hmp : m < p
      · have hdiv : (m : Int) / 2 ^ k = 0 := by rw [HDIV.out m, Nat.div_eq_of_lt hmp]; rfl
        by_cases hqn : q < nd
        · have hv := HOK.out.dig q (by rw [HND.out]; exact hqn)
          have cq : w.cell? ⟨b, q, none⟩ = some (.int .u8 (d.b q)) := hcd.out q hqn
          have hst := Dec.take_succ H.out.len q (by omega)
          obtain ⟨v, hvv⟩ : ∃ v, d.b q = v := ⟨_, rfl⟩
          rw [hvv] at hv cq hst
          have HM2 : Hid (m * 10 + (v - 48) = dval (d.ds.take (q + 1))) := Lib.hid (by rw [hst, dval_snoc, ← HM.out])
          clear hst hvv
          have hqi : ¬ ((nd : Int) ≤ (q : Int)) := by omega
          go_wp2_with fail
          go_roundw
          case rel => exact ⟨q + 1, m * 10 + (v - 48), by omega, by go_num, congrArg (Value.int .u64) (by omega), (by trivial), by omega, Lib.hid HM2.out⟩
          case measure => simp [intOf]; omega
        · obtain rfl : q = nd := by omega
          have hm0 : 0 < m := by
            have h1 := HOK.out.leadv H.out.len
            have h2 := HOK.out.dig 0 HOK.out.pos
            have h3 := HOK.out.lead
            rw [HND.out] at h1
            have h4 : 0 < (d.b 0 - 48) * 10 ^ (q - 1) := Nat.mul_pos (by omega) (Nat.pow_pos (by omega))
            rw [HM.out]
            omega
          have hmz : ((m : Int) == 0) = false := by rw [beq_eq_false_iff_ne]; omega
          have HM1 : Hid (q = 1 → m = d.b 0 - 48) := Lib.hid (fun h1 => by
            have hst := Dec.take_succ H.out.len 0 (by omega)
            rw [HM.out, h1, hst, dval_snoc]
            simp [dval])
          go_wp2_with fail
          go_loopw [4, 6] (fun r n wy => ∃ t z : Nat, q ≤ t ∧ r = .int .i64 t ∧ n = .int .u64 z ∧ w = wy ∧ 0 < z ∧ z < 10 * p ∧ Hid (10 ^ (t - q) ≤ z) ∧ Hid (t = 1 → z = d.b 0 - 48)) (fun _ n _ => 10 * p - (intOf n).toNat)
          case atStart => exact ⟨q, m, Nat.le_refl _, rfl, rfl, rfl, hm0, by omega, Lib.hid (by rw [Nat.sub_self]; exact hm0), Lib.hid HM1.out⟩
          case round =>
            obtain ⟨t, z, ht, rfl, rfl, rfl, hz0, hz, HZ, HT⟩ := hrel
            by_cases hzp : z < p
            · have hdiv2 : (z : Int) / 2 ^ k = 0 := by rw [HDIV.out z, Nat.div_eq_of_lt hzp]; rfl
              have htb : t - q ≤ 18 := by
                rcases Nat.lt_or_ge 18 (t - q) with h | h
                · have := Nat.pow_le_pow_right (n := 10) (by omega) (show 19 ≤ t - q by omega)
                  have h5 := HZ.out
                  have h6 : (10 : Nat) ^ 19 = 10000000000000000000 := by decide
                  omega
                · exact h
              go_wp2_with fail
              go_roundw
              case rel => exact ⟨t + 1, z * 10, by omega, by go_num, congrArg (Value.int .u64) (by omega), (by trivial), by omega, by omega, Lib.hid (by
                rw [show t + 1 - q = (t - q) + 1 by omega, Nat.pow_succ]
                exact Nat.mul_le_mul_right _ HZ.out), Lib.hid (fun h => by omega)⟩
              case measure => simp [intOf]; omega
            · have hx : ¬ ((z / p : Nat) : Int) = 0 := by
                have := Nat.div_pos (by omega : p ≤ z) hpp
                omega
              have hdiv2 := HDIV.out z
              have htb : t ≤ 1000 := by
                rcases Nat.lt_or_ge 19 (t - q) with h | h
                · have := Nat.pow_le_pow_right (n := 10) (by omega) (show 20 ≤ t - q by omega)
                  have h5 := HZ.out
                  have h6 : (10 : Nat) ^ 20 = 100000000000000000000 := by decide
                  omega
                · omega
              obtain ⟨x, hxx⟩ : ∃ x, z / p = x := ⟨_, rfl⟩
              rw [hxx] at hx hdiv2
              have hxz : ((x : Int) == 0) = false := by rw [beq_eq_false_iff_ne]; exact hx
              clear hxx
              go_wp2_with fail
              go_meet
              exact ⟨t, z, rfl, rfl, rfl, by omega, htb, by omega, hz, HT⟩
      · have hx : ¬ ((m / p : Nat) : Int) = 0 := by
          have := Nat.div_pos (by omega : p ≤ m) hpp
          omega
        have hdiv := HDIV.out m
        have hq0 : 1 ≤ q := by
          rcases Nat.eq_zero_or_pos q with rfl | h
          · have := HM.out
            simp [dval] at this
            omega
          · exact h
        have HM1 : Hid (q = 1 → m = d.b 0 - 48) := Lib.hid (fun h1 => by
          have hst := Dec.take_succ H.out.len 0 (by omega)
          rw [HM.out, h1, hst, dval_snoc]
          simp [dval])
        obtain ⟨x, hxx⟩ : ∃ x, m / p = x := ⟨_, rfl⟩
        rw [hxx] at hx hdiv
        have hxz : ((x : Int) == 0) = false := by rw [beq_eq_false_iff_ne]; exact hx
        clear hxx
        go_wp2_with fail
        go_meet
        exact ⟨q, m, rfl, rfl, rfl, hq0, by omega, by omega, hm, HM1⟩
  case rest =>
    obtain ⟨r0, m0, rfl, rfl, rfl, hr1, hr2, hm1, hm2, HQ⟩ := hcut
    obtain ⟨pm, hpm⟩ : ∃ pm, p - 1 = pm := ⟨_, rfl⟩
    have hsh : IntKind.u64.wrap (1 * 2 ^ k) = (p : Int) := by
      have h1 : (1 : Int) * 2 ^ k = (p : Int) := by rw [Int.one_mul, ← hp]; push_cast; rfl
      rw [h1, IntKind.wrap_u64]; omega
    have hsh2 : IntKind.u64.wrap (2 ^ k) = (p : Int) := by
      have h1 : (2 : Int) ^ k = (p : Int) := by rw [← hp]; push_cast; rfl
      rw [h1, IntKind.wrap_u64]; omega
    have hsub : (p : Int) - 1 = (pm : Int) := by omega
    have HDP : Hid (DecAt (w.setCell ⟨b, 801, none⟩ (.int .i64 (d.dp - ((r0 : Int) - 1)))) b { d with dp := d.dp - ((r0 : Int) - 1) }) := Lib.hid (H.out.setdp _)
    have HBP : Hid (Below b w (w.setCell ⟨b, 801, none⟩ (.int .i64 (d.dp - ((r0 : Int) - 1))))) := Lib.hid ((Below.refl b w).setCell (p := ⟨b, 801, none⟩) (Nat.le_refl _) _)
    obtain ⟨dp, hdp⟩ : ∃ z : Int, d.dp - ((r0 : Int) - 1) = z := ⟨_, rfl⟩
    have hx9 : Hid (∀ m : Nat, m < 10 * p → m / p ≤ 9 ∧ m % p < p) := Lib.hid (fun m h => ⟨by
      have : m / p < 10 := Nat.div_lt_of_lt_mul (by rw [Nat.mul_comm]; exact h)
      omega, Nat.mod_lt _ hpp⟩)
    have HAND : Hid (∀ m : Nat, m < 18446744073709551616 → bits .and .u64 (m : Int) (pm : Int) = ((m % p : Nat) : Int)) := Lib.hid (fun m h => by
      have := mask_mod k m hk2 h
      rw [hp, hpm] at this
      exact this)
    have HDPE := Lib.hid hdp
    go_wp2_with fail
    rw [hdp] at HDP HBP
    generalize w.setCell ⟨b, 801, none⟩ (.int .i64 dp) = w1 at *
    clear c800 c801 f801 hsh hsh2 hsub hdp
    go_loopw [4, 5, 6] (fun r wi n wr => ∃ (i m : Nat) (dd : Dec), r = .int .i64 ((r0 : Int) + i) ∧ wi = .int .i64 i ∧ n = .int .u64 m ∧ i ≤ 800 ∧ m < 10 * p ∧ Hid (i = 0 → m = m0) ∧ Hid (RsI d dd dp i (r0 + i) (m0 / p)) ∧ Hid (DecAt wr b dd) ∧ Hid (Below b w wr)) (fun _ wi _ _ => 801 - (intOf wi).toNat)
    case atStart => exact ⟨0, m0, { d with dp := dp }, by simp, rfl, rfl, by omega, hm2, Lib.hid (fun _ => rfl), Lib.hid ⟨rfl, rfl, rfl, fun _ _ _ => rfl, fun _ h => by omega, fun h => by omega⟩, Lib.hid HDP.out, Lib.hid HBP.out⟩
    case round =>
      obtain ⟨i, m, dd, rfl, rfl, rfl, hi, hm, H0, HI, HD, HB⟩ := hrel
      have c8 : wr.cell? ⟨b, 800, none⟩ = some (.int .i64 nd) := by rw [← HND.out, ← HI.out.nd]; exact HD.out.cnd
      by_cases hrn : r0 + i < nd
      · have hrni : (r0 : Int) + i < (nd : Int) := by omega
        have hv := HOK.out.dig (r0 + i) (by rw [HND.out]; exact hrn)
        have cq : wr.cell? ⟨b, r0 + i, none⟩ = some (.int .u8 (d.b (r0 + i))) := by
          rw [← HI.out.old (r0 + i) (Nat.le_refl _) (by omega)]
          exact HD.out.cd _ (by omega)
        obtain ⟨v, hvv⟩ : ∃ v, d.b (r0 + i) = v := ⟨_, rfl⟩
        rw [hvv] at hv cq
        have hi8 : i < 800 := by omega
        have cw := HD.out.cd i hi8
        have fw := HD.out.free i
        have hdiv := HDIV.out m
        have hand := HAND.out m (by omega)
        obtain ⟨hx1, hy1⟩ := hx9.out m hm
        have HXE : Hid (i = 0 → m / p = m0 / p) := Lib.hid (fun h => by rw [H0.out h])
        obtain ⟨x, hxx⟩ : ∃ x, m / p = x := ⟨_, rfl⟩
        obtain ⟨y, hyy⟩ : ∃ y, m % p = y := ⟨_, rfl⟩
        rw [hxx] at hdiv hx1 HXE
        rw [hyy] at hand hy1
        have hll := HD.out.len
        clear hxx hyy hvv
        go_wp2_with fail
        rw [show (x : Int) + 48 = ((48 + x : Nat) : Int) by omega]
        exact ⟨⟨i + 1, y * 10 + (v - 48), { dd with ds := dd.ds.set i (48 + x) }, congrArg (Value.int .i64) (by omega), congrArg (Value.int .i64) (by omega), congrArg (Value.int .u64) (by omega), by omega, by omega, Lib.hid (fun h => by omega),
          Lib.hid (HI.out.put hll hi8 hx1 HXE.out _ (by omega) (by omega)), Lib.hid (HD.out.setd _ hi8 _), Lib.hid (HB.out.setCell (p := ⟨b, i, none⟩) (Nat.le_refl _) _)⟩, by simp [intOf]; omega⟩
      · have hrni : ¬ (r0 : Int) + i < (nd : Int) := by omega
        have HI5 := Lib.hid (HI.out.gt 5000 (by omega))
        have HD5 := Lib.hid HD.out
        have HB5 := Lib.hid HB.out
        have H05 := Lib.hid H0.out
        clear HI HD HB H0 hrn
        go_wp2_with fail
        clear c8 hrni
        go_loopw [5, 6] (fun wi n wr => ∃ (i m : Nat) (dd : Dec), wi = .int .i64 i ∧ n = .int .u64 m ∧ i ≤ 800 ∧ m < 10 * p ∧ Hid (i = 0 → m = m0) ∧ Hid (RsI d dd dp i 5000 (m0 / p)) ∧ Hid (DecAt wr b dd) ∧ Hid (Below b w wr)) (fun _ n _ => rsMu k (intOf n).toNat)
        case atStart => exact ⟨i, m, dd, rfl, rfl, hi, hm, Lib.hid H05.out, Lib.hid HI5.out, Lib.hid HD5.out, Lib.hid HB5.out⟩
        case round =>
          clear HI5 HD5 HB5 H05 hi hm
          obtain ⟨i, m, dd, rfl, rfl, hi, hm, H0, HI, HD, HB⟩ := hrel
          rcases Nat.eq_zero_or_pos m with rfl | hmp
          · have hi0 : 0 < i := by
              rcases Nat.eq_zero_or_pos i with h | h
              · have := H0.out h; omega
              · exact h
            have c8 := HD.out.cnd
            have f8 := HD.out.free 800
            have HD6 := Lib.hid (HD.out.setnd i)
            have HB6 := Lib.hid (HB.out.setCell (p := ⟨b, 800, none⟩) (Nat.le_refl _) (.int .i64 (i : Int)))
            go_wp2_with fail
            refine (trim233 b _ _ HD6.out hi).mono ?_
            rintro e1 w5 ⟨rfl, ⟨mf, hmf, hkk, hdec⟩, hbf⟩
            have hfst := HI.out.fst hi0
            have ha0 : 0 < m0 / p := Nat.div_pos hm1 hpp
            have hmf0 : 0 < mf := hkk 0 hi0 (by show dd.b 0 ≠ 48; rw [hfst]; omega)
            have hdpE : (if mf = 0 then 0 else dd.dp) = d.dp - ((r0 : Int) - 1) := by rw [if_neg (by omega), HI.out.dp]; exact HDPE.out.symm
            have HR := Lib.hid (show RsEnd d b k w w5 from ⟨_, hdec, ⟨Nat.le_trans hmf hi, hmf0, fun j hj => HI.out.new j (Nat.lt_of_lt_of_le hj hmf), by show dd.b 0 ≠ 48; rw [hfst]; omega⟩, HI.out.ng,
              ⟨r0, hr1, hr2, hdpE, fun h1 => by
                have h2 := HQ.out h1
                refine ⟨by rw [hp]; omega, ?_⟩
                show dd.b 0 - 48 = _
                rw [hfst, hp, ← h2]; omega⟩, HB6.out.trans hbf⟩)
            clear hmf hkk hdec hbf hfst ha0 hdpE
            go_wp2_with fail
            go_end0
            exact ⟨rfl, HR.out⟩
          · have hmi : (0 : Int) < m := by omega
            have hdiv := HDIV.out m
            have hand := HAND.out m (by omega)
            obtain ⟨hx1, hy1⟩ := hx9.out m hm
            have HXE : Hid (i = 0 → m / p = m0 / p) := Lib.hid (fun h => by rw [H0.out h])
            have HMU : Hid (rsMu k (m % p * 10) < rsMu k m) := Lib.hid (by have := rsMu_step k m hmp; rwa [hp] at this)
            obtain ⟨x, hxx⟩ : ∃ x, m / p = x := ⟨_, rfl⟩
            obtain ⟨y, hyy⟩ : ∃ y, m % p = y := ⟨_, rfl⟩
            rw [hxx] at hdiv hx1 HXE
            rw [hyy] at hand hy1 HMU
            have hll := HD.out.len
            clear hxx hyy
            by_cases hi8 : i < 800
            · have hi8i : (i : Int) < 800 := by omega
              have cw := HD.out.cd i hi8
              have fw := HD.out.free i
              go_wp2_with fail
              rw [show (x : Int) + 48 = ((48 + x : Nat) : Int) by omega]
              refine ⟨⟨i + 1, y * 10, { dd with ds := dd.ds.set i (48 + x) }, congrArg (Value.int .i64) (by omega), congrArg (Value.int .u64) (by omega), by omega, by omega, Lib.hid (fun h => by omega),
                Lib.hid (HI.out.put hll hi8 hx1 HXE.out _ (by omega) (by omega)), Lib.hid (HD.out.setd _ hi8 _), Lib.hid (HB.out.setCell (p := ⟨b, i, none⟩) (Nat.le_refl _) _)⟩, ?_⟩
              show rsMu k ((y : Int) * 10).toNat < rsMu k ((m : Int)).toNat
              rw [show ((y : Int) * 10).toNat = y * 10 by omega, Int.toNat_natCast]
              exact HMU.out
            · have hi8i : ¬ (i : Int) < 800 := by omega
              have cw := HD.out.ctr
              have fw := HD.out.free 803
              by_cases hx0 : x = 0
              · subst hx0
                go_wp2_with fail
                refine ⟨⟨i, y * 10, dd, rfl, congrArg (Value.int .u64) (by omega), by omega, by omega, Lib.hid (fun h => by omega), Lib.hid HI.out, Lib.hid HD.out, Lib.hid HB.out⟩, ?_⟩
                show rsMu k ((y : Int) * 10).toNat < rsMu k ((m : Int)).toNat
                rw [show ((y : Int) * 10).toNat = y * 10 by omega, Int.toNat_natCast]
                exact HMU.out
              · have hx0i : (0 : Int) < x := by omega
                go_wp2_with fail
                refine ⟨⟨i, y * 10, { dd with tr := true }, rfl, congrArg (Value.int .u64) (by omega), by omega, by omega, Lib.hid (fun h => by omega), Lib.hid (HI.out.tr true), Lib.hid (HD.out.settr true), Lib.hid (HB.out.setCell (p := ⟨b, 803, none⟩) (Nat.le_refl _) _)⟩, ?_⟩
                show rsMu k ((y : Int) * 10).toNat < rsMu k ((m : Int)).toNat
                rw [show ((y : Int) * 10).toNat = y * 10 by omega, Int.toNat_natCast]
                exact HMU.out
end Go.Proofs.YtpjfmfaijcbopaaGreatDoor
