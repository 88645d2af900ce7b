/- (*decimal).floatBits: the walk through the loops. -/
import Derived.Test.YtpjfmfaijcbopaaGreatDoorFc
import Derived.Outline
namespace Go.Proofs.YtpjfmfaijcbopaaGreatDoor
open Go.RowKit Go.Proofs

/-- The measure of the first loop, read from memory. -/
def decMu (f : Dec → Nat) (w : World) (b : Nat) : Nat := match w.cell? ⟨b, 801, none⟩, w.cell? ⟨b, 0, none⟩ with
  | some (.int _ dp), some (.int _ x) => f ⟨[x.toNat], 1, dp, false, false⟩
  | _, _ => 0
theorem decMu_eq (f : Dec → Nat) (hf : ∀ d d' : Dec, d.dp = d'.dp → d.b 0 = d'.b 0 → f d = f d') {w : World} {b : Nat} {d : Dec} (h : DecAt w b d) : decMu f w b = f d := by
  unfold decMu
  rw [h.cdp, h.cd 0 (by omega)]
  apply hf
  · rfl
  · show ([((d.b 0 : Nat) : Int).toNat] : List Nat).getD 0 0 = d.b 0
    simp
theorem muA_ext (d d' : Dec) (h1 : d.dp = d'.dp) (h2 : d.b 0 = d'.b 0) : muA d = muA d' := by unfold muA; rw [h1, h2]
theorem muB_ext (d d' : Dec) (h1 : d.dp = d'.dp) (h2 : d.b 0 = d'.b 0) : muB d = muB d' := by unfold muB; rw [h1, h2]

-- The rest behind the loops: where the shifts have left a decimal dt in wt.
set_option maxRecDepth 100000 in
set_option maxHeartbeats 16000000 in
theorem bits215b (b b11 b10 bl : Nat) (d : Dec) (w : World) (h : DecAt w b d) (hok : d.ok) (h1 : -330 ≤ d.dp) (h2 : d.dp ≤ 310) (hG : Glob w b b11 b10 bl) (hT : CheatTab w bl) (h13 : 13 < b) :
    Calls Tryz.prog 215 #[.pointer (some ⟨b, 0, none⟩), .pointer (some ⟨7, 0, none⟩)] w fun e w' => SomeUB e ∧ Below b w w' := by
  have c8 := h.cnd
  have c9 := h.cdp
  obtain ⟨ng, hng⟩ : ∃ g, d.ng = g := ⟨_, rfl⟩
  have hndz : ((d.nd : Int) == 0) = false := by rw [beq_eq_false_iff_ne]; have := hok.pos; omega
  have HG : Hid (∀ w', Below b w w' → Glob w' b b11 b10 bl) := Lib.hid (fun w' hB => hG.below hB)
  have HT : Hid (∀ w', Below b w w' → CheatTab w' bl) := Lib.hid (fun w' hB => hT.below hB h13 hG.lt.2.2.2)
  have H := Lib.hid h
  have HOK := Lib.hid hok
  have hhi : ¬ 310 < d.dp := by omega
  have hlo : ¬ d.dp < -330 := by omega
  clear hG hT h hok
  go_enter Tryz.func215, Tryz.ntmps215
  go_wp2_with fail
  refine wp_scope_hide (fun J hJ => ?_)
  have HJ := Lib.hid hJ
  clear hJ
  go_wp2_with fail
  go_loopw [6] (fun x wr => ∃ (z : Int) (d' : Dec), x = .int .i64 z ∧ 0 ≤ z ∧ z + 27 * (muA d' : Int) ≤ 20000 ∧ -1000 ≤ d'.dp ∧ d'.dp ≤ 310 ∧ Hid (d'.ng = ng) ∧ Hid (DecAt wr b d') ∧ Hid d'.ok ∧ Hid (Below b w wr)) (fun _ wr => decMu muA wr b)
  case atStart => exact ⟨0, d, rfl, by omega, by unfold muA; split <;> omega, by omega, by omega, Lib.hid hng, Lib.hid H.out, Lib.hid HOK.out, Lib.hid (Below.refl _ _)⟩
  case round =>
    obtain ⟨z, d', rfl, hz0, hz1, hp0, hp1, HN, HD, HO, HB⟩ := hrel
    have c91 := HD.out.cdp
    by_cases hdp : 0 < d'.dp
    · obtain ⟨k, hk⟩ : ∃ k : Nat, d'.dp = k := ⟨d'.dp.toNat, by omega⟩
      rw [hk] at c91
      have hG := HG.out wr HB.out
      obtain ⟨o, s10, p10o⟩ := hG.t10
      have p10 := Lib.hid p10o
      clear p10o
      obtain ⟨hn1, hn2, hn3⟩ := powN_ok k
      have hn3' := hn3 (by omega)
      have hkpos : (0 : Int) < (k : Int) := by omega
      by_cases hk9 : k < 9
      · have hki : ¬ (9 : Int) ≤ (k : Int) := by omega
        have pk : wr.cell? ⟨b10, o + k, none⟩ = some (.int .i64 (powN k)) := by
          rw [p10.out k hk9]
          have : ∀ k < 9, (([1, 3, 6, 9, 13, 16, 19, 23, 26] : List Int).getD k 0) = (powN k : Int) := by decide
          rw [this k hk9]
        obtain ⟨n, hn⟩ : ∃ n, powN k = n := ⟨_, rfl⟩
        rw [hn] at hn1 hn2 hn3' pk
        clear hn hn3 hG
        go_wp2_with fail
        go_quiet (fail)
        have c92 : (wr.drewN nq).cell? ⟨b, 801, none⟩ = some (.int .i64 k) := c91
        have s102 : (wr.drewN nq).cell? ⟨10, 0, none⟩ = some (.slice (some ⟨b10, o, none⟩) 9 9) := s10
        have pk2 : (wr.drewN nq).cell? ⟨b10, o + k, none⟩ = some (.int .i64 n) := pk
        have HD2 := Lib.hid (HD.out.heap (w' := wr.drewN nq) rfl)
        have HB2 := Lib.hid (below_drewN HB.out nq)
        generalize wr.drewN nq = w2 at *
        go_wp2_with fail
        go_quiet (fail)
        have HD3 := Lib.hid (HD2.out.heap (w' := w2.drewN nq) rfl)
        have HB3 := Lib.hid (below_drewN HB2.out nq)
        generalize w2.drewN nq = w3 at *
        go_wp2_with fail
        refine (shiftR b n d' w3 HD3.out HO.out hn1 (by omega) (by omega) (by omega)).mono ?_
        rintro e w4 ⟨rfl, d2, hD, hO, hN, ⟨r, hr1, hr2, hdp2, hr3⟩, hB⟩
        have hmu := muA_step HO.out (by omega) hn3' hr1 hdp2 hr3
        have HE := Lib.hid (And.intro hD (And.intro hO (And.intro (hN.trans HN.out) (HB3.out.trans hB))))
        have HMU := Lib.hid hmu
        have hle1 : -1000 ≤ d2.dp := by omega
        have hle2 : d2.dp ≤ 310 := by omega
        have hz2 : z + n + 27 * (muA d2 : Int) ≤ 20000 := by omega
        clear hD hO hN hB hdp2 hr3 hmu
        go_wp2_with fail
        exact ⟨⟨z + n, d2, rfl, by omega, hz2, hle1, hle2, Lib.hid HE.out.2.2.1, Lib.hid HE.out.1, Lib.hid HE.out.2.1, Lib.hid HE.out.2.2.2⟩, by rw [decMu_eq muA muA_ext HE.out.1, decMu_eq muA muA_ext HD.out]; exact HMU.out⟩
      · have hki : (9 : Int) ≤ (k : Int) := by omega
        clear hn1 hn2 hn3 hn3' hG
        go_wp2_with fail
        go_quiet (fail)
        have HD2 := Lib.hid (HD.out.heap (w' := wr.drewN nq) rfl)
        have HB2 := Lib.hid (below_drewN HB.out nq)
        generalize wr.drewN nq = w2 at *
        go_wp2_with fail
        refine (shiftR b 27 d' w2 HD2.out HO.out (by omega) (by omega) (by omega) (by omega)).mono ?_
        rintro e w4 ⟨rfl, d2, hD, hO, hN, ⟨r, hr1, hr2, hdp2, hr3⟩, hB⟩
        have hmu := muA_step HO.out (by omega) (show 3 ≤ 27 by omega) hr1 hdp2 hr3
        have HE := Lib.hid (And.intro hD (And.intro hO (And.intro (hN.trans HN.out) (HB2.out.trans hB))))
        have HMU := Lib.hid hmu
        have hle1 : -1000 ≤ d2.dp := by omega
        have hle2 : d2.dp ≤ 310 := by omega
        have hz2 : z + 27 + 27 * (muA d2 : Int) ≤ 20000 := by omega
        clear hD hO hN hB hdp2 hr3 hmu
        go_wp2_with fail
        exact ⟨⟨z + 27, d2, rfl, by omega, hz2, hle1, hle2, Lib.hid HE.out.2.2.1, Lib.hid HE.out.1, Lib.hid HE.out.2.1, Lib.hid HE.out.2.2.2⟩, by rw [decMu_eq muA muA_ext HE.out.1, decMu_eq muA muA_ext HD.out]; exact HMU.out⟩
    · have hz3 : z ≤ 20000 := by omega
      have hmuB := muB_le hp0
      clear hz1
      go_wp2_with fail
      go_loopw [6] (fun x wr => ∃ (z : Int) (d' : Dec), x = .int .i64 z ∧ z ≤ 20000 ∧ 27 * (muB d' : Int) - 600000 ≤ z ∧ -1000 ≤ d'.dp ∧ d'.dp ≤ 1000 ∧ Hid (d'.ng = ng) ∧ Hid (DecAt wr b d') ∧ Hid d'.ok ∧ Hid (Below b w wr)) (fun _ wr => decMu muB wr b)
      case atStart => exact ⟨z, d', rfl, hz3, by omega, hp0, by omega, Lib.hid HN.out, Lib.hid HD.out, Lib.hid HO.out, Lib.hid HB.out⟩
      case round =>
        clear HN HD HO HB hp0 hp1 hz0 hz3 c91 hmuB hdp
        obtain ⟨z, d', rfl, hz0, hz1, hp0, hp1, HN, HD, HO, HB⟩ := hrel
        have c91 := HD.out.cdp
        have c0 := HD.out.cd 0 (by omega)
        by_cases hgo : d'.dp < 0 ∨ (d'.dp = 0 ∧ d'.b 0 < 53)
        · obtain ⟨k, hk⟩ : ∃ k : Nat, d'.dp = -(k : Int) := ⟨(-d'.dp).toNat, by omega⟩
          rw [hk] at c91
          have hG := HG.out wr HB.out
          obtain ⟨o, s10, p10o⟩ := hG.t10
          have p10 := Lib.hid p10o
          clear p10o
          obtain ⟨hn1, hn2, -⟩ := powN_ok k
          by_cases hk9 : k < 9
          · have hki : ¬ (9 : Int) ≤ (k : Int) := by omega
            have pk : wr.cell? ⟨b10, o + k, none⟩ = some (.int .i64 (powN k)) := by
              rw [p10.out k hk9]
              have : ∀ k < 9, (([1, 3, 6, 9, 13, 16, 19, 23, 26] : List Int).getD k 0) = (powN k : Int) := by decide
              rw [this k hk9]
            obtain ⟨n, hn⟩ : ∃ n, powN k = n := ⟨_, rfl⟩
            rw [hn] at hn1 hn2 pk
            clear hn hG
            have hnn : - -(k : Int) = k := by omega
            by_cases hk0 : k = 0
            · subst hk0
              have h53 : (d'.b 0 : Int) < 53 := by omega
              have c92 : wr.cell? ⟨b, 801, none⟩ = some (.int .i64 0) := c91
              clear c91
              go_wp2_with fail
              go_quiet (fail)
              have c93 : (wr.drewN nq).cell? ⟨b, 801, none⟩ = some (.int .i64 0) := c92
              have s102 : (wr.drewN nq).cell? ⟨10, 0, none⟩ = some (.slice (some ⟨b10, o, none⟩) 9 9) := s10
              have pk2 : (wr.drewN nq).cell? ⟨b10, o, none⟩ = some (.int .i64 n) := pk
              have HD2 := Lib.hid (HD.out.heap (w' := wr.drewN nq) rfl)
              have HB2 := Lib.hid (below_drewN HB.out nq)
              generalize wr.drewN nq = w2 at *
              go_wp2_with fail
              go_quiet (fail)
              have HD3 := Lib.hid (HD2.out.heap (w' := w2.drewN nq) rfl)
              have HB3 := Lib.hid (below_drewN HB2.out nq)
              generalize w2.drewN nq = w3 at *
              go_wp2_with fail
              refine (shiftL b n bl d' w3 HD3.out HO.out (by omega) (by omega) (HT.out _ HB3.out) (by omega) (by omega)).mono ?_
              rintro e w4 ⟨rfl, d2, hD, hO, hN, ⟨e2, he20, hdp2, he0⟩, hB⟩
              have hmu := muB_step (n := n) HO.out hO (by omega) (by omega) hdp2 he0
              have HE := Lib.hid (And.intro hD (And.intro hO (And.intro (hN.trans HN.out) (HB3.out.trans hB))))
              have HMU := Lib.hid hmu
              have hle1 : -1000 ≤ d2.dp := by omega
              have hle2 : d2.dp ≤ 1000 := by omega
              have hz2 : 27 * (muB d2 : Int) - 600000 ≤ z - n := by omega
              have hz4 : z - n ≤ 20000 := by omega
              clear hD hO hN hB hdp2 he0 hmu
              go_wp2_with fail
              exact ⟨⟨z - n, d2, rfl, hz4, hz2, hle1, hle2, Lib.hid HE.out.2.2.1, Lib.hid HE.out.1, Lib.hid HE.out.2.1, Lib.hid HE.out.2.2.2⟩, by rw [decMu_eq muB muB_ext HE.out.1, decMu_eq muB muB_ext HD.out]; exact HMU.out⟩
            · have hneg : -(k : Int) < 0 := by omega
              go_wp2_with fail
              go_quiet (fail)
              have c93 : (wr.drewN nq).cell? ⟨b, 801, none⟩ = some (.int .i64 (-(k : Int))) := c91
              have s102 : (wr.drewN nq).cell? ⟨10, 0, none⟩ = some (.slice (some ⟨b10, o, none⟩) 9 9) := s10
              have pk2 : (wr.drewN nq).cell? ⟨b10, o + k, none⟩ = some (.int .i64 n) := pk
              have HD2 := Lib.hid (HD.out.heap (w' := wr.drewN nq) rfl)
              have HB2 := Lib.hid (below_drewN HB.out nq)
              generalize wr.drewN nq = w2 at *
              go_wp2_with fail
              go_quiet (fail)
              have HD3 := Lib.hid (HD2.out.heap (w' := w2.drewN nq) rfl)
              have HB3 := Lib.hid (below_drewN HB2.out nq)
              generalize w2.drewN nq = w3 at *
              go_wp2_with fail
              refine (shiftL b n bl d' w3 HD3.out HO.out (by omega) (by omega) (HT.out _ HB3.out) (by omega) (by omega)).mono ?_
              rintro e w4 ⟨rfl, d2, hD, hO, hN, ⟨e2, he20, hdp2, he0⟩, hB⟩
              have hmu := muB_step (n := n) HO.out hO (by omega) (by omega) hdp2 he0
              have HE := Lib.hid (And.intro hD (And.intro hO (And.intro (hN.trans HN.out) (HB3.out.trans hB))))
              have HMU := Lib.hid hmu
              have hle1 : -1000 ≤ d2.dp := by omega
              have hle2 : d2.dp ≤ 1000 := by omega
              have hz2 : 27 * (muB d2 : Int) - 600000 ≤ z - n := by omega
              have hz4 : z - n ≤ 20000 := by omega
              clear hD hO hN hB hdp2 he0 hmu
              go_wp2_with fail
              exact ⟨⟨z - n, d2, rfl, hz4, hz2, hle1, hle2, Lib.hid HE.out.2.2.1, Lib.hid HE.out.1, Lib.hid HE.out.2.1, Lib.hid HE.out.2.2.2⟩, by rw [decMu_eq muB muB_ext HE.out.1, decMu_eq muB muB_ext HD.out]; exact HMU.out⟩
          · have hki : (9 : Int) ≤ (k : Int) := by omega
            have hneg : -(k : Int) < 0 := by omega
            have hnn : - -(k : Int) = k := by omega
            clear hn1 hn2 hG
            go_wp2_with fail
            go_quiet (fail)
            have HD3 := Lib.hid (HD.out.heap (w' := wr.drewN nq) rfl)
            have HB3 := Lib.hid (below_drewN HB.out nq)
            generalize wr.drewN nq = w2 at *
            go_wp2_with fail
            refine (shiftL b 27 bl d' w2 HD3.out HO.out (by omega) (by omega) (HT.out _ HB3.out) (by omega) (by omega)).mono ?_
            rintro e w4 ⟨rfl, d2, hD, hO, hN, ⟨e2, he20, hdp2, he0⟩, hB⟩
            have hmu := muB_step (n := 27) HO.out hO (by omega) (by omega) hdp2 he0
            have HE := Lib.hid (And.intro hD (And.intro hO (And.intro (hN.trans HN.out) (HB3.out.trans hB))))
            have HMU := Lib.hid hmu
            have hle1 : -1000 ≤ d2.dp := by omega
            have hle2 : d2.dp ≤ 1000 := by omega
            have hz2 : 27 * (muB d2 : Int) - 600000 ≤ z - 27 := by omega
            have hz4 : z - 27 ≤ 20000 := by omega
            clear hD hO hN hB hdp2 he0 hmu
            go_wp2_with fail
            exact ⟨⟨z - 27, d2, rfl, hz4, hz2, hle1, hle2, Lib.hid HE.out.2.2.1, Lib.hid HE.out.1, Lib.hid HE.out.2.1, Lib.hid HE.out.2.2.2⟩, by rw [decMu_eq muB muB_ext HE.out.1, decMu_eq muB muB_ext HD.out]; exact HMU.out⟩
        · have hG := HG.out wr HB.out
          have k0 := hG.i0
          have k1 := hG.i1
          have k2 := hG.i2
          have hzb : -600000 ≤ z := by omega
          clear hG hz1
          obtain ⟨p, hp⟩ : ∃ p, d'.dp = p := ⟨_, rfl⟩
          obtain ⟨x0, hx0⟩ : ∃ x, d'.b 0 = x := ⟨_, rfl⟩
          rw [hp] at c91 hp0 hp1 hgo
          rw [hx0] at c0 hgo
          have HPP := Lib.hid hp
          clear hp hx0
          have hp3 : ¬ p < 0 := by omega
          by_cases hpz : p = 0
          · subst hpz
            have h53 : ¬ (x0 : Int) < 53 := by omega
            clear hgo hp3
            by_cases hx : z - 1 < -1022
            · obtain ⟨n, hn⟩ : ∃ n : Nat, -1022 - (z - 1) = (n : Int) := ⟨(-1022 - (z - 1)).toNat, by omega⟩
              have hn1 : 1 ≤ n := by omega
              have hn2 : n ≤ 1000000 := by omega
              have hzn : z - 1 + (n : Int) = -1022 := by omega
              go_wp2_with fail
              refine (shiftRb b n d' wr HD.out HO.out hn1 hn2 (by have := HPP.out; omega) (by have := HPP.out; omega)).mono ?_
              rintro e wt ⟨rfl, dt, hD, hO, hN, hdt1, hdt2, hB⟩
              have HDt := Lib.hid hD
              have HOt := Lib.hid hO
              have HNt := Lib.hid (hN.trans HN.out)
              have HBt := Lib.hid (HB.out.trans hB)
              have hdt3 : dt.dp ≤ 1000 := by have := HPP.out; omega
              have hGt := HG.out wt HBt.out
              have k0 := hGt.i0
              have k1 := hGt.i1
              have k2 := hGt.i2
              clear hD hO hN hB hGt HD HO HN HB c0 c91
              go_wp2_with fail
              go_quiet (fail)
              have HDu := Lib.hid (HDt.out.heap (w' := wt.drewN nq) rfl)
              have HBu := Lib.hid (below_drewN HBt.out nq)
              have hGu := HG.out _ HBu.out
              have q0 := hGu.i0
              have q1 := hGu.i1
              have q2 := hGu.i2
              clear hGu
              clear k0 k1 k2 HDt HBt
              generalize wt.drewN nq = wu at *
              go_wp2_with fail
              refine (shiftL b 53 bl dt wu HDu.out HOt.out (by omega) (by omega) (HT.out _ HBu.out) (by omega) (by omega)).mono ?_
              rintro e w5 ⟨rfl, d5, hD, hO, hN, -, hB⟩
              have HB5 := Lib.hid (HBu.out.trans hB)
              have c2 : ∀ n, (w5.drewN n).cell? ⟨b, 802, none⟩ = some (.bool ng) := fun n => by
                have := (hD.heap (w' := w5.drewN n) rfl).cng
                rw [this, hN, HNt.out]
              have hG5 := HG.out w5 HB5.out
              have i0 : ∀ n, (w5.drewN n).cell? ⟨7, 0, none⟩ = some (.int .u64 52) := fun _ => hG5.i0
              have i1 : ∀ n, (w5.drewN n).cell? ⟨7, 1, none⟩ = some (.int .u64 11) := fun _ => hG5.i1
              have i2 : ∀ n, (w5.drewN n).cell? ⟨7, 2, none⟩ = some (.int .i64 (-1023)) := fun _ => hG5.i2
              have k0 := hG5.i0
              have k1 := hG5.i1
              have k2 := hG5.i2
              have HB : ∀ n, Below b w (w5.drewN n) := fun n => below_drewN HB5.out n
              have HD5 := Lib.hid hD
              have HL5 := Lib.hid hO.le
              clear hD hO hN hB hG5 q0 q1 q2
              go_wp2_with fail
              refine (rint250 b d5 w5 HD5.out HL5.out).mono ?_
              rintro e w' ⟨⟨m, rfl⟩, rfl⟩
              go_wp2_with fail
              · go_quiet (fail)
                go_wp2_with fail
                all_goals first
                  | (go_step3
                     change J 0 _ _
                     rw [HJ.out]
                     refine ⟨_, rfl, ?_⟩
                     go_wp2_with fail
                     go_quiet (fail)
                     cases ng
                     · go_wp2_with fail
                       rw [Exit.noGoto_ret]
                       go_ret2
                       first | exact ⟨⟨_, _, rfl⟩, HB _⟩ | exact ⟨⟨_, _, rfl⟩, below_drewN (HB _) _⟩
                     · go_wp2_with fail
                       go_quiet (fail)
                       go_wp2_with fail
                       rw [Exit.noGoto_ret]
                       go_ret2
                       first | exact ⟨⟨_, _, rfl⟩, HB _⟩ | exact ⟨⟨_, _, rfl⟩, below_drewN (HB _) _⟩)
                  | (go_step3
                     change J 1 _ _
                     rw [HJ.out]
                     refine ⟨_, rfl, ?_⟩
                     go_wp2_with fail
                     go_quiet (fail)
                     go_wp2_with fail
                     go_step3
                     go_wp2_with fail
                     go_quiet (fail)
                     cases ng
                     · go_wp2_with fail
                       rw [Exit.noGoto_ret]
                       go_ret2
                       first | exact ⟨⟨_, _, rfl⟩, HB _⟩ | exact ⟨⟨_, _, rfl⟩, below_drewN (HB _) _⟩
                     · go_wp2_with fail
                       go_quiet (fail)
                       go_wp2_with fail
                       rw [Exit.noGoto_ret]
                       go_ret2
                       first | exact ⟨⟨_, _, rfl⟩, HB _⟩ | exact ⟨⟨_, _, rfl⟩, below_drewN (HB _) _⟩)
              · go_step3
                change J 0 _ _
                rw [HJ.out]
                refine ⟨_, rfl, ?_⟩
                go_wp2_with fail
                go_quiet (fail)
                cases ng
                · go_wp2_with fail
                  rw [Exit.noGoto_ret]
                  go_ret2
                  first | exact ⟨⟨_, _, rfl⟩, HB _⟩ | exact ⟨⟨_, _, rfl⟩, below_drewN (HB _) _⟩
                · go_wp2_with fail
                  go_quiet (fail)
                  go_wp2_with fail
                  rw [Exit.noGoto_ret]
                  go_ret2
                  first | exact ⟨⟨_, _, rfl⟩, HB _⟩ | exact ⟨⟨_, _, rfl⟩, below_drewN (HB _) _⟩
              · go_step3
                change J 0 _ _
                rw [HJ.out]
                refine ⟨_, rfl, ?_⟩
                go_wp2_with fail
                go_quiet (fail)
                cases ng
                · go_wp2_with fail
                  rw [Exit.noGoto_ret]
                  go_ret2
                  first | exact ⟨⟨_, _, rfl⟩, HB _⟩ | exact ⟨⟨_, _, rfl⟩, below_drewN (HB _) _⟩
                · go_wp2_with fail
                  go_quiet (fail)
                  go_wp2_with fail
                  rw [Exit.noGoto_ret]
                  go_ret2
                  first | exact ⟨⟨_, _, rfl⟩, HB _⟩ | exact ⟨⟨_, _, rfl⟩, below_drewN (HB _) _⟩
            · have HDt := Lib.hid HD.out
              have HOt := Lib.hid HO.out
              have HNt := Lib.hid HN.out
              have HBt := Lib.hid HB.out
              have hdt1 : -1000 ≤ d'.dp := by have := HPP.out; omega
              have hdt3 : d'.dp ≤ 1000 := by have := HPP.out; omega
              have hzz : z - 1 - -1023 = z + 1022 := by omega
              clear HD HO HN HB
              by_cases hy : 2047 ≤ z + 1022
              · go_wp2_with fail
                clear c0 c91
                go_quiet (fail)
                have HDu := Lib.hid (HDt.out.heap (w' := wr.drewN nq) rfl)
                have HBu := Lib.hid (below_drewN HBt.out nq)
                have hGu := HG.out _ HBu.out
                have q0 := hGu.i0
                have q1 := hGu.i1
                have q2 := hGu.i2
                clear hGu
                clear k0 k1 k2 HDt HBt
                generalize wr.drewN nq = wu at *
                go_wp2_with fail
                have c2 : ∀ n, (wu.drewN n).cell? ⟨b, 802, none⟩ = some (.bool ng) := fun n => by
                  have := (HDu.out.heap (w' := wu.drewN n) rfl).cng
                  rw [this, HNt.out]
                have hG5 := HG.out wu HBu.out
                have i0 : ∀ n, (wu.drewN n).cell? ⟨7, 0, none⟩ = some (.int .u64 52) := fun _ => hG5.i0
                have i1 : ∀ n, (wu.drewN n).cell? ⟨7, 1, none⟩ = some (.int .u64 11) := fun _ => hG5.i1
                have i2 : ∀ n, (wu.drewN n).cell? ⟨7, 2, none⟩ = some (.int .i64 (-1023)) := fun _ => hG5.i2
                have HB : ∀ n, Below b w (wu.drewN n) := fun n => below_drewN HBu.out n
                clear hG5
                go_step3
                change J 1 _ _
                rw [HJ.out]
                refine ⟨_, rfl, ?_⟩
                go_wp2_with fail
                go_quiet (fail)
                go_wp2_with fail
                go_step3
                go_wp2_with fail
                go_quiet (fail)
                cases ng
                · go_wp2_with fail
                  rw [Exit.noGoto_ret]
                  go_ret2
                  first | exact ⟨⟨_, _, rfl⟩, HB _⟩ | exact ⟨⟨_, _, rfl⟩, below_drewN (HB _) _⟩
                · go_wp2_with fail
                  go_quiet (fail)
                  go_wp2_with fail
                  rw [Exit.noGoto_ret]
                  go_ret2
                  first | exact ⟨⟨_, _, rfl⟩, HB _⟩ | exact ⟨⟨_, _, rfl⟩, below_drewN (HB _) _⟩
              · go_wp2_with fail
                clear c0 c91
                go_quiet (fail)
                have HDu := Lib.hid (HDt.out.heap (w' := wr.drewN nq) rfl)
                have HBu := Lib.hid (below_drewN HBt.out nq)
                have hGu := HG.out _ HBu.out
                have q0 := hGu.i0
                have q1 := hGu.i1
                have q2 := hGu.i2
                clear hGu
                clear k0 k1 k2 HDt HBt
                generalize wr.drewN nq = wu at *
                go_wp2_with fail
                refine (shiftL b 53 bl d' wu HDu.out HOt.out (by omega) (by omega) (HT.out _ HBu.out) (by omega) (by omega)).mono ?_
                rintro e w5 ⟨rfl, d5, hD, hO, hN, -, hB⟩
                have HB5 := Lib.hid (HBu.out.trans hB)
                have c2 : ∀ n, (w5.drewN n).cell? ⟨b, 802, none⟩ = some (.bool ng) := fun n => by
                  have := (hD.heap (w' := w5.drewN n) rfl).cng
                  rw [this, hN, HNt.out]
                have hG5 := HG.out w5 HB5.out
                have i0 : ∀ n, (w5.drewN n).cell? ⟨7, 0, none⟩ = some (.int .u64 52) := fun _ => hG5.i0
                have i1 : ∀ n, (w5.drewN n).cell? ⟨7, 1, none⟩ = some (.int .u64 11) := fun _ => hG5.i1
                have i2 : ∀ n, (w5.drewN n).cell? ⟨7, 2, none⟩ = some (.int .i64 (-1023)) := fun _ => hG5.i2
                have k0 := hG5.i0
                have k1 := hG5.i1
                have k2 := hG5.i2
                have HB : ∀ n, Below b w (w5.drewN n) := fun n => below_drewN HB5.out n
                have HD5 := Lib.hid hD
                have HL5 := Lib.hid hO.le
                clear hD hO hN hB hG5 q0 q1 q2
                go_wp2_with fail
                refine (rint250 b d5 w5 HD5.out HL5.out).mono ?_
                rintro e w' ⟨⟨m, rfl⟩, rfl⟩
                go_wp2_with fail
                · go_quiet (fail)
                  go_wp2_with fail
                  all_goals first
                    | (go_step3
                       change J 0 _ _
                       rw [HJ.out]
                       refine ⟨_, rfl, ?_⟩
                       go_wp2_with fail
                       go_quiet (fail)
                       cases ng
                       · go_wp2_with fail
                         rw [Exit.noGoto_ret]
                         go_ret2
                         first | exact ⟨⟨_, _, rfl⟩, HB _⟩ | exact ⟨⟨_, _, rfl⟩, below_drewN (HB _) _⟩
                       · go_wp2_with fail
                         go_quiet (fail)
                         go_wp2_with fail
                         rw [Exit.noGoto_ret]
                         go_ret2
                         first | exact ⟨⟨_, _, rfl⟩, HB _⟩ | exact ⟨⟨_, _, rfl⟩, below_drewN (HB _) _⟩)
                    | (go_step3
                       change J 1 _ _
                       rw [HJ.out]
                       refine ⟨_, rfl, ?_⟩
                       go_wp2_with fail
                       go_quiet (fail)
                       go_wp2_with fail
                       go_step3
                       go_wp2_with fail
                       go_quiet (fail)
                       cases ng
                       · go_wp2_with fail
                         rw [Exit.noGoto_ret]
                         go_ret2
                         first | exact ⟨⟨_, _, rfl⟩, HB _⟩ | exact ⟨⟨_, _, rfl⟩, below_drewN (HB _) _⟩
                       · go_wp2_with fail
                         go_quiet (fail)
                         go_wp2_with fail
                         rw [Exit.noGoto_ret]
                         go_ret2
                         first | exact ⟨⟨_, _, rfl⟩, HB _⟩ | exact ⟨⟨_, _, rfl⟩, below_drewN (HB _) _⟩)
                · go_step3
                  change J 0 _ _
                  rw [HJ.out]
                  refine ⟨_, rfl, ?_⟩
                  go_wp2_with fail
                  go_quiet (fail)
                  cases ng
                  · go_wp2_with fail
                    rw [Exit.noGoto_ret]
                    go_ret2
                    first | exact ⟨⟨_, _, rfl⟩, HB _⟩ | exact ⟨⟨_, _, rfl⟩, below_drewN (HB _) _⟩
                  · go_wp2_with fail
                    go_quiet (fail)
                    go_wp2_with fail
                    rw [Exit.noGoto_ret]
                    go_ret2
                    first | exact ⟨⟨_, _, rfl⟩, HB _⟩ | exact ⟨⟨_, _, rfl⟩, below_drewN (HB _) _⟩
                · go_step3
                  change J 0 _ _
                  rw [HJ.out]
                  refine ⟨_, rfl, ?_⟩
                  go_wp2_with fail
                  go_quiet (fail)
                  cases ng
                  · go_wp2_with fail
                    rw [Exit.noGoto_ret]
                    go_ret2
                    first | exact ⟨⟨_, _, rfl⟩, HB _⟩ | exact ⟨⟨_, _, rfl⟩, below_drewN (HB _) _⟩
                  · go_wp2_with fail
                    go_quiet (fail)
                    go_wp2_with fail
                    rw [Exit.noGoto_ret]
                    go_ret2
                    first | exact ⟨⟨_, _, rfl⟩, HB _⟩ | exact ⟨⟨_, _, rfl⟩, below_drewN (HB _) _⟩
          · have hpe : (p == 0) = false := by rw [beq_eq_false_iff_ne]; exact hpz
            clear hgo
            by_cases hx : z - 1 < -1022
            · obtain ⟨n, hn⟩ : ∃ n : Nat, -1022 - (z - 1) = (n : Int) := ⟨(-1022 - (z - 1)).toNat, by omega⟩
              have hn1 : 1 ≤ n := by omega
              have hn2 : n ≤ 1000000 := by omega
              have hzn : z - 1 + (n : Int) = -1022 := by omega
              go_wp2_with fail
              refine (shiftRb b n d' wr HD.out HO.out hn1 hn2 (by have := HPP.out; omega) (by have := HPP.out; omega)).mono ?_
              rintro e wt ⟨rfl, dt, hD, hO, hN, hdt1, hdt2, hB⟩
              have HDt := Lib.hid hD
              have HOt := Lib.hid hO
              have HNt := Lib.hid (hN.trans HN.out)
              have HBt := Lib.hid (HB.out.trans hB)
              have hdt3 : dt.dp ≤ 1000 := by have := HPP.out; omega
              have hGt := HG.out wt HBt.out
              have k0 := hGt.i0
              have k1 := hGt.i1
              have k2 := hGt.i2
              clear hD hO hN hB hGt HD HO HN HB c0 c91
              go_wp2_with fail
              go_quiet (fail)
              have HDu := Lib.hid (HDt.out.heap (w' := wt.drewN nq) rfl)
              have HBu := Lib.hid (below_drewN HBt.out nq)
              have hGu := HG.out _ HBu.out
              have q0 := hGu.i0
              have q1 := hGu.i1
              have q2 := hGu.i2
              clear hGu
              clear k0 k1 k2 HDt HBt
              generalize wt.drewN nq = wu at *
              go_wp2_with fail
              refine (shiftL b 53 bl dt wu HDu.out HOt.out (by omega) (by omega) (HT.out _ HBu.out) (by omega) (by omega)).mono ?_
              rintro e w5 ⟨rfl, d5, hD, hO, hN, -, hB⟩
              have HB5 := Lib.hid (HBu.out.trans hB)
              have c2 : ∀ n, (w5.drewN n).cell? ⟨b, 802, none⟩ = some (.bool ng) := fun n => by
                have := (hD.heap (w' := w5.drewN n) rfl).cng
                rw [this, hN, HNt.out]
              have hG5 := HG.out w5 HB5.out
              have i0 : ∀ n, (w5.drewN n).cell? ⟨7, 0, none⟩ = some (.int .u64 52) := fun _ => hG5.i0
              have i1 : ∀ n, (w5.drewN n).cell? ⟨7, 1, none⟩ = some (.int .u64 11) := fun _ => hG5.i1
              have i2 : ∀ n, (w5.drewN n).cell? ⟨7, 2, none⟩ = some (.int .i64 (-1023)) := fun _ => hG5.i2
              have k0 := hG5.i0
              have k1 := hG5.i1
              have k2 := hG5.i2
              have HB : ∀ n, Below b w (w5.drewN n) := fun n => below_drewN HB5.out n
              have HD5 := Lib.hid hD
              have HL5 := Lib.hid hO.le
              clear hD hO hN hB hG5 q0 q1 q2
              go_wp2_with fail
              refine (rint250 b d5 w5 HD5.out HL5.out).mono ?_
              rintro e w' ⟨⟨m, rfl⟩, rfl⟩
              go_wp2_with fail
              · go_quiet (fail)
                go_wp2_with fail
                all_goals first
                  | (go_step3
                     change J 0 _ _
                     rw [HJ.out]
                     refine ⟨_, rfl, ?_⟩
                     go_wp2_with fail
                     go_quiet (fail)
                     cases ng
                     · go_wp2_with fail
                       rw [Exit.noGoto_ret]
                       go_ret2
                       first | exact ⟨⟨_, _, rfl⟩, HB _⟩ | exact ⟨⟨_, _, rfl⟩, below_drewN (HB _) _⟩
                     · go_wp2_with fail
                       go_quiet (fail)
                       go_wp2_with fail
                       rw [Exit.noGoto_ret]
                       go_ret2
                       first | exact ⟨⟨_, _, rfl⟩, HB _⟩ | exact ⟨⟨_, _, rfl⟩, below_drewN (HB _) _⟩)
                  | (go_step3
                     change J 1 _ _
                     rw [HJ.out]
                     refine ⟨_, rfl, ?_⟩
                     go_wp2_with fail
                     go_quiet (fail)
                     go_wp2_with fail
                     go_step3
                     go_wp2_with fail
                     go_quiet (fail)
                     cases ng
                     · go_wp2_with fail
                       rw [Exit.noGoto_ret]
                       go_ret2
                       first | exact ⟨⟨_, _, rfl⟩, HB _⟩ | exact ⟨⟨_, _, rfl⟩, below_drewN (HB _) _⟩
                     · go_wp2_with fail
                       go_quiet (fail)
                       go_wp2_with fail
                       rw [Exit.noGoto_ret]
                       go_ret2
                       first | exact ⟨⟨_, _, rfl⟩, HB _⟩ | exact ⟨⟨_, _, rfl⟩, below_drewN (HB _) _⟩)
              · go_step3
                change J 0 _ _
                rw [HJ.out]
                refine ⟨_, rfl, ?_⟩
                go_wp2_with fail
                go_quiet (fail)
                cases ng
                · go_wp2_with fail
                  rw [Exit.noGoto_ret]
                  go_ret2
                  first | exact ⟨⟨_, _, rfl⟩, HB _⟩ | exact ⟨⟨_, _, rfl⟩, below_drewN (HB _) _⟩
                · go_wp2_with fail
                  go_quiet (fail)
                  go_wp2_with fail
                  rw [Exit.noGoto_ret]
                  go_ret2
                  first | exact ⟨⟨_, _, rfl⟩, HB _⟩ | exact ⟨⟨_, _, rfl⟩, below_drewN (HB _) _⟩
              · go_step3
                change J 0 _ _
                rw [HJ.out]
                refine ⟨_, rfl, ?_⟩
                go_wp2_with fail
                go_quiet (fail)
                cases ng
                · go_wp2_with fail
                  rw [Exit.noGoto_ret]
                  go_ret2
                  first | exact ⟨⟨_, _, rfl⟩, HB _⟩ | exact ⟨⟨_, _, rfl⟩, below_drewN (HB _) _⟩
                · go_wp2_with fail
                  go_quiet (fail)
                  go_wp2_with fail
                  rw [Exit.noGoto_ret]
                  go_ret2
                  first | exact ⟨⟨_, _, rfl⟩, HB _⟩ | exact ⟨⟨_, _, rfl⟩, below_drewN (HB _) _⟩
            · have HDt := Lib.hid HD.out
              have HOt := Lib.hid HO.out
              have HNt := Lib.hid HN.out
              have HBt := Lib.hid HB.out
              have hdt1 : -1000 ≤ d'.dp := by have := HPP.out; omega
              have hdt3 : d'.dp ≤ 1000 := by have := HPP.out; omega
              have hzz : z - 1 - -1023 = z + 1022 := by omega
              clear HD HO HN HB
              by_cases hy : 2047 ≤ z + 1022
              · go_wp2_with fail
                clear c0 c91
                go_quiet (fail)
                have HDu := Lib.hid (HDt.out.heap (w' := wr.drewN nq) rfl)
                have HBu := Lib.hid (below_drewN HBt.out nq)
                have hGu := HG.out _ HBu.out
                have q0 := hGu.i0
                have q1 := hGu.i1
                have q2 := hGu.i2
                clear hGu
                clear k0 k1 k2 HDt HBt
                generalize wr.drewN nq = wu at *
                go_wp2_with fail
                have c2 : ∀ n, (wu.drewN n).cell? ⟨b, 802, none⟩ = some (.bool ng) := fun n => by
                  have := (HDu.out.heap (w' := wu.drewN n) rfl).cng
                  rw [this, HNt.out]
                have hG5 := HG.out wu HBu.out
                have i0 : ∀ n, (wu.drewN n).cell? ⟨7, 0, none⟩ = some (.int .u64 52) := fun _ => hG5.i0
                have i1 : ∀ n, (wu.drewN n).cell? ⟨7, 1, none⟩ = some (.int .u64 11) := fun _ => hG5.i1
                have i2 : ∀ n, (wu.drewN n).cell? ⟨7, 2, none⟩ = some (.int .i64 (-1023)) := fun _ => hG5.i2
                have HB : ∀ n, Below b w (wu.drewN n) := fun n => below_drewN HBu.out n
                clear hG5
                go_step3
                change J 1 _ _
                rw [HJ.out]
                refine ⟨_, rfl, ?_⟩
                go_wp2_with fail
                go_quiet (fail)
                go_wp2_with fail
                go_step3
                go_wp2_with fail
                go_quiet (fail)
                cases ng
                · go_wp2_with fail
                  rw [Exit.noGoto_ret]
                  go_ret2
                  first | exact ⟨⟨_, _, rfl⟩, HB _⟩ | exact ⟨⟨_, _, rfl⟩, below_drewN (HB _) _⟩
                · go_wp2_with fail
                  go_quiet (fail)
                  go_wp2_with fail
                  rw [Exit.noGoto_ret]
                  go_ret2
                  first | exact ⟨⟨_, _, rfl⟩, HB _⟩ | exact ⟨⟨_, _, rfl⟩, below_drewN (HB _) _⟩
              · go_wp2_with fail
                clear c0 c91
                go_quiet (fail)
                have HDu := Lib.hid (HDt.out.heap (w' := wr.drewN nq) rfl)
                have HBu := Lib.hid (below_drewN HBt.out nq)
                have hGu := HG.out _ HBu.out
                have q0 := hGu.i0
                have q1 := hGu.i1
                have q2 := hGu.i2
                clear hGu
                clear k0 k1 k2 HDt HBt
                generalize wr.drewN nq = wu at *
                go_wp2_with fail
                refine (shiftL b 53 bl d' wu HDu.out HOt.out (by omega) (by omega) (HT.out _ HBu.out) (by omega) (by omega)).mono ?_
                rintro e w5 ⟨rfl, d5, hD, hO, hN, -, hB⟩
                have HB5 := Lib.hid (HBu.out.trans hB)
                have c2 : ∀ n, (w5.drewN n).cell? ⟨b, 802, none⟩ = some (.bool ng) := fun n => by
                  have := (hD.heap (w' := w5.drewN n) rfl).cng
                  rw [this, hN, HNt.out]
                have hG5 := HG.out w5 HB5.out
                have i0 : ∀ n, (w5.drewN n).cell? ⟨7, 0, none⟩ = some (.int .u64 52) := fun _ => hG5.i0
                have i1 : ∀ n, (w5.drewN n).cell? ⟨7, 1, none⟩ = some (.int .u64 11) := fun _ => hG5.i1
                have i2 : ∀ n, (w5.drewN n).cell? ⟨7, 2, none⟩ = some (.int .i64 (-1023)) := fun _ => hG5.i2
                have k0 := hG5.i0
                have k1 := hG5.i1
                have k2 := hG5.i2
                have HB : ∀ n, Below b w (w5.drewN n) := fun n => below_drewN HB5.out n
                have HD5 := Lib.hid hD
                have HL5 := Lib.hid hO.le
                clear hD hO hN hB hG5 q0 q1 q2
                go_wp2_with fail
                refine (rint250 b d5 w5 HD5.out HL5.out).mono ?_
                rintro e w' ⟨⟨m, rfl⟩, rfl⟩
                go_wp2_with fail
                · go_quiet (fail)
                  go_wp2_with fail
                  all_goals first
                    | (go_step3
                       change J 0 _ _
                       rw [HJ.out]
                       refine ⟨_, rfl, ?_⟩
                       go_wp2_with fail
                       go_quiet (fail)
                       cases ng
                       · go_wp2_with fail
                         rw [Exit.noGoto_ret]
                         go_ret2
                         first | exact ⟨⟨_, _, rfl⟩, HB _⟩ | exact ⟨⟨_, _, rfl⟩, below_drewN (HB _) _⟩
                       · go_wp2_with fail
                         go_quiet (fail)
                         go_wp2_with fail
                         rw [Exit.noGoto_ret]
                         go_ret2
                         first | exact ⟨⟨_, _, rfl⟩, HB _⟩ | exact ⟨⟨_, _, rfl⟩, below_drewN (HB _) _⟩)
                    | (go_step3
                       change J 1 _ _
                       rw [HJ.out]
                       refine ⟨_, rfl, ?_⟩
                       go_wp2_with fail
                       go_quiet (fail)
                       go_wp2_with fail
                       go_step3
                       go_wp2_with fail
                       go_quiet (fail)
                       cases ng
                       · go_wp2_with fail
                         rw [Exit.noGoto_ret]
                         go_ret2
                         first | exact ⟨⟨_, _, rfl⟩, HB _⟩ | exact ⟨⟨_, _, rfl⟩, below_drewN (HB _) _⟩
                       · go_wp2_with fail
                         go_quiet (fail)
                         go_wp2_with fail
                         rw [Exit.noGoto_ret]
                         go_ret2
                         first | exact ⟨⟨_, _, rfl⟩, HB _⟩ | exact ⟨⟨_, _, rfl⟩, below_drewN (HB _) _⟩)
                · go_step3
                  change J 0 _ _
                  rw [HJ.out]
                  refine ⟨_, rfl, ?_⟩
                  go_wp2_with fail
                  go_quiet (fail)
                  cases ng
                  · go_wp2_with fail
                    rw [Exit.noGoto_ret]
                    go_ret2
                    first | exact ⟨⟨_, _, rfl⟩, HB _⟩ | exact ⟨⟨_, _, rfl⟩, below_drewN (HB _) _⟩
                  · go_wp2_with fail
                    go_quiet (fail)
                    go_wp2_with fail
                    rw [Exit.noGoto_ret]
                    go_ret2
                    first | exact ⟨⟨_, _, rfl⟩, HB _⟩ | exact ⟨⟨_, _, rfl⟩, below_drewN (HB _) _⟩
                · go_step3
                  change J 0 _ _
                  rw [HJ.out]
                  refine ⟨_, rfl, ?_⟩
                  go_wp2_with fail
                  go_quiet (fail)
                  cases ng
                  · go_wp2_with fail
                    rw [Exit.noGoto_ret]
                    go_ret2
                    first | exact ⟨⟨_, _, rfl⟩, HB _⟩ | exact ⟨⟨_, _, rfl⟩, below_drewN (HB _) _⟩
                  · go_wp2_with fail
                    go_quiet (fail)
                    go_wp2_with fail
                    rw [Exit.noGoto_ret]
                    go_ret2
                    first | exact ⟨⟨_, _, rfl⟩, HB _⟩ | exact ⟨⟨_, _, rfl⟩, below_drewN (HB _) _⟩
end Go.Proofs.YtpjfmfaijcbopaaGreatDoor
