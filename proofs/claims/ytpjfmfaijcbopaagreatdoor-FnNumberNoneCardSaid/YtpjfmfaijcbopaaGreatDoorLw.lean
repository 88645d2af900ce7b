/- The walk of internal/strconv.leftShift. -/
import Derived.Test.YtpjfmfaijcbopaaGreatDoorLs
namespace Go.Proofs.YtpjfmfaijcbopaaGreatDoor
open Go.RowKit Go.Proofs

/-- What a left shift leaves. -/
def LsEnd (d : Dec) (b k : Nat) (w w' : World) : Prop := ∃ d' : Dec, DecAt w' b d' ∧ d'.ok ∧ d'.ng = d.ng ∧ (∃ e : Nat, e ≤ 20 ∧ d'.dp = d.dp + e ∧ (e = 0 → 2 ^ k * (d.b 0 - 48) ≤ d'.b 0 - 48)) ∧ Below b w w'

theorem slice209 (b n : Nat) (hn : n ≤ 800) (w : World) : (Instr.sliceAt 209 (.pointer (some ⟨b, 0, none⟩)) (some (.int .i64 0)) (some (.int .i64 n)) none).run Tryz.prog w = .ok (.slice (some ⟨b, 0, none⟩) n 800) w := by
  have ha : Tryz.prog.arrayLen 209 = 800 := by kernel_rfl
  have he : Tryz.prog.elem 209 = 5 := by kernel_rfl
  rw [run_sliceAt_array_lh (P := Tryz.prog) w 209 ⟨b, 0, none⟩ (by kernel_rfl) .i64 .i64 0 n (by omega) (by omega) (by rw [ha]; omega), he]
  rw [show ((sizeOf 5).run Tryz.prog w) = .ok 1 w by kernel_rfl]
  simp [slicedAt, ha, Result.andThen, Addr.add]
set_option maxRecDepth 100000 in
set_option maxHeartbeats 16000000 in
theorem left234 (b k bl : Nat) (d : Dec) (w : World) (h : DecAt w b d) (hok : d.ok) (hk1 : 1 ≤ k) (hk2 : k ≤ 60) (hT : CheatTab w bl) (hdp0 : -1000000000000 ≤ d.dp) (hdp1 : d.dp ≤ 1000000000000) :
    Calls Tryz.prog 234 #[.pointer (some ⟨b, 0, none⟩), .int .u64 k] w fun e w' => e = .returned (.tuple #[]) ∧ LsEnd d b k w w' := by
  have hl := h.len
  obtain ⟨o, s13, hrow⟩ := hT.t13
  obtain ⟨delta, c, r0, r1, hC, hcs⟩ := hrow k hk1 hk2
  clear hrow
  have hle := hok.le
  have hpos := hok.pos
  have hlen : (d.ds.take d.nd).length = d.nd := by simp; omega
  have CP : Hid (∀ w0 : World, (∀ i, i < d.nd → w0.cell? ⟨b, i, none⟩ = some (.int .u8 (d.b i))) → Calls Tryz.prog 254 #[.slice (some ⟨b, 0, none⟩) d.nd 800, .string c] w0 fun e w' => e = .returned (.bool (pl (d.ds.take d.nd) (bytesN c))) ∧ ∃ m, w' = w0.drewN m) := Lib.hid (fun w0 hw0 => by
    have := prefix254 b 800 (d.ds.take d.nd) c w0 (by
      intro i hi
      rw [hlen] at hi
      rw [hw0 i hi]
      unfold Dec.b
      rw [List.getD, List.getD, List.getElem?_take, if_pos hi]) hcs
    rw [hlen] at this
    exact this)
  obtain ⟨X, hX⟩ : ∃ X, dval (d.ds.take d.nd) * 2 ^ k = X := ⟨_, rfl⟩
  obtain ⟨B, hB⟩ : ∃ B, pl (d.ds.take d.nd) (bytesN c) = B := ⟨_, rfl⟩
  have hlead : 10 ^ ((d.ds.take d.nd).length - 1) ≤ dval (d.ds.take d.nd) := by
    rw [hlen]
    have h1 := hok.leadv hl
    have h2 := hok.dig 0 hpos
    have h3 := hok.lead
    calc 10 ^ (d.nd - 1) = 1 * 10 ^ (d.nd - 1) := (Nat.one_mul _).symm
      _ ≤ (d.b 0 - 48) * 10 ^ (d.nd - 1) := Nat.mul_le_mul_right _ (by omega)
      _ ≤ _ := h1
  obtain ⟨e, he⟩ : ∃ e, delta - (if B then 1 else 0) = e := ⟨_, rfl⟩
  have hdl := hC.pos
  have hds := hC.small
  have hei : (delta : Int) - (if B then 1 else 0) = e := by rw [← he]; split <;> omega
  have HS := Lib.hid (shift_digits hC (hok.digs hl) hlead (by rw [hlen]; exact hpos) (d.nd + e) (by rw [hlen, hB, ← he]; split <;> omega))
  rw [hX] at HS
  rw [hB] at CP
  have he20 : e ≤ 20 := by rw [← he]; omega
  have c800 := h.cnd
  obtain ⟨nd, hnd⟩ : ∃ nd, d.nd = nd := ⟨_, rfl⟩
  have H := Lib.hid h
  have HOK := Lib.hid hok
  have HX := Lib.hid hX
  have HND := Lib.hid hnd
  have hcd : Hid (∀ i, i < nd → w.cell? ⟨b, i, none⟩ = some (.int .u8 (d.b i))) := Lib.hid (fun i hi => h.cd i (by omega))
  rw [hnd] at c800 CP hle hpos
  clear h hok hX hB he hT hC hlead hlen hl hnd
  have hsl := slice209 b nd hle
  obtain ⟨p, hp⟩ : ∃ p, 2 ^ k = p := ⟨_, rfl⟩
  have hp60 : p ≤ 1152921504606846976 := by rw [← hp]; exact Nat.pow_le_pow_right (n := 2) (by omega) hk2
  have HPP : Hid (0 < p) := Lib.hid (by rw [← hp]; exact Nat.pow_pos (by omega))
  cases B
  all_goals
    simp only [if_true, if_false, Bool.false_eq_true, Int.sub_zero] at hei
    go_enter Tryz.func234, Tryz.ntmps234
    go_wp2_with fail
    go_quiet ((go_at_call 254; exact Calls.quiet_of (CP.out _ hcd.out)))
    have c800' : (w.drewN nq).cell? ⟨b, 800, none⟩ = some (.int .i64 nd) := c800
    have HD1 : Hid (DecAt (w.drewN nq) b d) := Lib.hid (H.out.heap rfl)
    have HB1 : Hid (Below b w (w.drewN nq)) := Lib.hid (below_drewN (Below.refl _ _) nq)
    generalize w.drewN nq = w1 at *
    go_wp2_with fail
    go_loopw [5, 6, 7] (fun r wi n wr => ∃ (q m : Nat) (dd : Dec), q ≤ nd ∧ r = .int .i64 ((q : Int) - 1) ∧ wi = .int .i64 ((q : Int) + e) ∧ n = .int .u64 m ∧ m < 1152921504606846976 ∧ Hid (m < p ∧ m + dval (d.ds.take q) * p = X / 10 ^ (nd - q)) ∧ Hid (LsI d dd X e q (nd + e)) ∧ Hid (DecAt wr b dd) ∧ Hid (Below b w wr)) (fun r _ _ _ => (intOf r + 1).toNat)
    case atStart => exact ⟨nd, 0, d, Nat.le_refl _, rfl, rfl, rfl, by omega, Lib.hid ⟨HPP.out, by rw [Nat.sub_self, Nat.pow_zero, Nat.div_one, Nat.zero_add, ← HND.out, ← hp]; exact HX.out⟩, Lib.hid ⟨rfl, rfl, rfl, fun _ _ => rfl, fun j h1 h2 => by omega⟩, Lib.hid HD1.out, Lib.hid HB1.out⟩
    case round =>
      obtain ⟨q, m, dd, hq, rfl, rfl, rfl, hm, HM, HI, HD, HB⟩ := hrel
      rcases Nat.eq_zero_or_pos q with rfl | hq0
      · rw [show (((0 : Nat) : Int) - 1) = -1 by omega, show (((0 : Nat) : Int) + e) = e by omega]
        have hm0 : m = X / 10 ^ (nd + e - e) := by
          have := HM.out.2
          simp only [List.take_zero, dval, Nat.zero_mul, Nat.add_zero, Nat.sub_zero] at this
          rw [this, Nat.add_sub_cancel]
        have HM0 := Lib.hid hm0
        have HJ := Lib.hid HI.out.toJ
        have HD3 := Lib.hid HD.out
        have HB3 := Lib.hid HB.out
        clear hm0 HM HI HD HB hq
        go_wp2_with fail
        go_loopw [6, 7] (fun wi n wr => ∃ (q m : Nat) (dd : Dec), q ≤ e ∧ wi = .int .i64 q ∧ n = .int .u64 m ∧ m < 1152921504606846976 ∧ Hid (m = X / 10 ^ (nd + e - q)) ∧ Hid (LsJ d dd X q (nd + e)) ∧ Hid (DecAt wr b dd) ∧ Hid (Below b w wr)) (fun wi _ _ => (intOf wi).toNat)
        case atStart => exact ⟨e, m, dd, Nat.le_refl _, rfl, rfl, hm, Lib.hid HM0.out, Lib.hid HJ.out, Lib.hid HD3.out, Lib.hid HB3.out⟩
        case round =>
          obtain ⟨q, m2, dd2, hq2, rfl, rfl, hm2, HM2, HJ2, HD4, HB4⟩ := hrel
          rcases Nat.eq_zero_or_pos m2 with rfl | hm0
          · obtain rfl : q = 0 := ls_end (X := X) (N := nd + e) (by rw [← HND.out]; exact HS.out.1) (by omega) HM2.out.symm
            have c8 : wr.cell? ⟨b, 800, none⟩ = some (.int .i64 nd) := by rw [← HND.out, ← HJ2.out.nd]; exact HD4.out.cnd
            have c9 : wr.cell? ⟨b, 801, none⟩ = some (.int .i64 d.dp) := by rw [← HJ2.out.dp]; exact HD4.out.cdp
            have f8 := HD4.out.free 800
            have f9 := HD4.out.free 801
            have hndd := HND.out
            have f82 := (HD4.out.setnd (nd + e)).free 800
            have f83 := (HD4.out.setnd (nd + e)).free 801
            have f84 := ((HD4.out.setnd (nd + e)).setnd 800).free 801
            by_cases h800 : 800 ≤ nd + e
            · have hi8 : (800 : Int) ≤ (nd : Int) + e := by omega
              have HD5 := Lib.hid (((HD4.out.setnd (nd + e)).setnd 800).setdp (d.dp + e))
              have HB5 := Lib.hid (((HB4.out.setCell (p := ⟨b, 800, none⟩) (Nat.le_refl _) (.int .i64 ((nd + e : Nat) : Int))).setCell (p := ⟨b, 800, none⟩) (Nat.le_refl _) (.int .i64 ((800 : Nat) : Int))).setCell (p := ⟨b, 801, none⟩) (Nat.le_refl _) (.int .i64 (d.dp + e)))
              have hcast : ((nd + e : Nat) : Int) = (nd : Int) + e := by omega
              rw [hcast] at HD5 HB5 f82 f83 f84
              go_wp2_with fail
              refine (trim233 b _ _ HD5.out (Nat.le_refl 800)).mono ?_
              rintro e1 w5 ⟨rfl, ⟨mf, hmf, hkk, hdec⟩, hbf⟩
              have fin := Lib.hid (ls_final (dd := dd2) (k := k) (M := 800) (m := mf) (by rw [HND.out]; exact HJ2.out) HOK.out H.out.len HX.out HS.out.1 HS.out.2.1 (by rw [HND.out]; omega) (Nat.le_refl _) (by omega) hmf hkk)
              have HDF := Lib.hid hdec
              have HBF := Lib.hid (HB5.out.trans hbf)
              clear hmf hkk hdec hbf
              go_wp2_with fail
              go_end0
              exact ⟨rfl, _, HDF.out, fin.out.1, fin.out.2.1, ⟨e, he20, fin.out.2.2.1, fin.out.2.2.2⟩, HBF.out⟩
            · have hi8 : ¬ (800 : Int) ≤ (nd : Int) + e := by omega
              have HD5 := Lib.hid ((HD4.out.setnd (nd + e)).setdp (d.dp + e))
              have HB5 := Lib.hid ((HB4.out.setCell (p := ⟨b, 800, none⟩) (Nat.le_refl _) (.int .i64 ((nd + e : Nat) : Int))).setCell (p := ⟨b, 801, none⟩) (Nat.le_refl _) (.int .i64 (d.dp + e)))
              have hcast : ((nd + e : Nat) : Int) = (nd : Int) + e := by omega
              rw [hcast] at HD5 HB5 f82 f83 f84
              go_wp2_with fail
              refine (trim233 b _ _ HD5.out (show nd + e ≤ 800 by omega)).mono ?_
              rintro e1 w5 ⟨rfl, ⟨mf, hmf, hkk, hdec⟩, hbf⟩
              have fin := Lib.hid (ls_final (dd := dd2) (k := k) (M := nd + e) (m := mf) (by rw [HND.out]; exact HJ2.out) HOK.out H.out.len HX.out HS.out.1 HS.out.2.1 (by rw [HND.out]; omega) (by omega) (by omega) hmf hkk)
              have HDF := Lib.hid hdec
              have HBF := Lib.hid (HB5.out.trans hbf)
              clear hmf hkk hdec hbf
              go_wp2_with fail
              go_end0
              exact ⟨rfl, _, HDF.out, fin.out.1, fin.out.2.1, ⟨e, he20, fin.out.2.2.1, fin.out.2.2.2⟩, HBF.out⟩
          · obtain ⟨q', rfl⟩ : ∃ q', q = q' + 1 := ⟨q - 1, by have := ls_pos (X := X) (N := nd + e) (by rw [← HND.out]; exact HS.out.2.1) HM2.out hm0; omega⟩
            rw [show ((q' + 1 : Nat) : Int) = (q' : Int) + 1 by omega]
            have hw : q' < 800 := by omega
            have cw : wr.cell? ⟨b, q', none⟩ = some (.int .u8 (dd2.b q')) := HD4.out.cd _ hw
            have fw : wr.frozen? ⟨b, q', none⟩ = false := HD4.out.free _
            have hwi : (q' : Int) < 800 := by omega
            have hll := HD4.out.len
            have hmp : (0 : Int) < m2 := by omega
            go_wp2_with fail
            have hval : (m2 : Int) - 10 * ((m2 : Int) / 10) + 48 = ((48 + m2 % 10 : Nat) : Int) := by omega
            rw [hval]
            have hst : m2 / 10 = X / 10 ^ (nd + e - q') ∧ m2 % 10 = X / 10 ^ (nd + e - 1 - q') % 10 := by
              have h1 := HM2.out
              rw [show nd + e - q' = (nd + e - (q' + 1)) + 1 by omega, Nat.pow_succ, ← Nat.div_div_eq_div_mul, ← h1, show nd + e - 1 - q' = nd + e - (q' + 1) by omega, ← h1]
              exact ⟨rfl, rfl⟩
            exact ⟨⟨q', m2 / 10, { dd2 with ds := dd2.ds.set q' (48 + m2 % 10) }, by omega, rfl, congrArg (Value.int .u64) (by omega), by omega, Lib.hid hst.1,
              Lib.hid (HJ2.out.put hll hw (by rw [hst.2])), Lib.hid (HD4.out.setd _ hw _), Lib.hid (HB4.out.setCell (p := ⟨b, q', none⟩) (Nat.le_refl _) _)⟩, by simp [intOf]⟩
      · obtain ⟨q', rfl⟩ : ∃ q', q = q' + 1 := ⟨q - 1, by omega⟩
        rw [show (((q' + 1 : Nat) : Int) - 1) = q' by omega, show (((q' + 1 : Nat) : Int) + e) = (q' : Int) + e + 1 by omega]
        have hv := HOK.out.dig q' (by rw [HND.out]; omega)
        have cq : wr.cell? ⟨b, q', none⟩ = some (.int .u8 (d.b q')) := by
          rw [← HI.out.old q' (by omega)]
          exact HD.out.cd q' (by omega)
        obtain ⟨v, hvv⟩ : ∃ v, d.b q' = v := ⟨_, rfl⟩
        rw [hvv] at hv cq
        obtain ⟨mm, hmm⟩ : ∃ mm, (v - 48) * p = mm := ⟨_, rfl⟩
        have hmb : mm ≤ 10376293541461622784 := by
          rw [← hmm]
          calc (v - 48) * p ≤ 9 * 1152921504606846976 := Nat.mul_le_mul (by omega) hp60
            _ = _ := by decide
        have hsh : IntKind.u64.wrap (((v : Int) - 48) * 2 ^ k) = (mm : Int) := by
          have h1 : ((v : Int) - 48) * 2 ^ k = (mm : Int) := by
            rw [← hmm, ← hp, show (v : Int) - 48 = ((v - 48 : Nat) : Int) by omega]
            push_cast
            rfl
          rw [IntKind.wrap_u64, h1]
          omega
        have hstep := ls_step (X := X) (nd := nd) (q := q') (n := m) (P := dval (d.ds.take q')) (v := v - 48) (p := p) hq (by
          have := HM.out.2
          rw [Dec.take_succ H.out.len q' (by omega), dval_snoc, hvv] at this
          exact this)
        rw [hmm] at hstep
        have hlt : (m + mm) / 10 < p := by
          have h1 := HM.out.1
          have h2 : mm ≤ 9 * p := by rw [← hmm]; exact Nat.mul_le_mul_right _ (by omega)
          omega
        have HST := Lib.hid (And.intro hlt hstep)
        have hll := HD.out.len
        clear hstep hlt hmm hvv
        by_cases hw : q' + e < 800
        · have cw : wr.cell? ⟨b, q' + e, none⟩ = some (.int .u8 (dd.b (q' + e))) := HD.out.cd _ hw
          have fw : wr.frozen? ⟨b, q' + e, none⟩ = false := HD.out.free _
          have hwi : (q' : Int) + e < 800 := by omega
          go_wp2_with fail
          have hval : (m : Int) + mm - 10 * (((m : Int) + mm) / 10) + 48 = ((48 + (m + mm) % 10 : Nat) : Int) := by omega
          rw [hval]
          refine ⟨⟨q', (m + mm) / 10, { dd with ds := dd.ds.set (q' + e) (48 + (m + mm) % 10) }, by omega, rfl, rfl, congrArg (Value.int .u64) (by omega), by have := HST.out.1; omega, Lib.hid ⟨HST.out.1, HST.out.2.1⟩,
            Lib.hid (HI.out.put hll hw (by rw [HST.out.2.2, show nd + e - 1 - (q' + e) = nd - 1 - q' by omega])), Lib.hid (HD.out.setd _ hw _), Lib.hid (HB.out.setCell (p := ⟨b, q' + e, none⟩) (Nat.le_refl _) _)⟩, by simp [intOf]⟩
        · have cw : wr.cell? ⟨b, 803, none⟩ = some (.bool dd.tr) := HD.out.ctr
          have fw : wr.frozen? ⟨b, 803, none⟩ = false := HD.out.free _
          have hwi : ¬ (q' : Int) + e < 800 := by omega
          go_wp2_with fail
          · refine ⟨⟨q', (m + mm) / 10, { dd with tr := true }, by omega, rfl, rfl, congrArg (Value.int .u64) (by omega), by have := HST.out.1; omega, Lib.hid ⟨HST.out.1, HST.out.2.1⟩,
              Lib.hid (HI.out.skip true (by omega)), Lib.hid (HD.out.settr _), Lib.hid (HB.out.setCell (p := ⟨b, 803, none⟩) (Nat.le_refl _) _)⟩, by simp [intOf]⟩
          · refine ⟨⟨q', (m + mm) / 10, dd, by omega, rfl, rfl, congrArg (Value.int .u64) (by omega), by have := HST.out.1; omega, Lib.hid ⟨HST.out.1, HST.out.2.1⟩,
              Lib.hid (HI.out.skip0 (by omega)), Lib.hid HD.out, Lib.hid HB.out⟩, by simp [intOf]⟩
end Go.Proofs.YtpjfmfaijcbopaaGreatDoor
