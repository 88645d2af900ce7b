/- (*decimal).set of a text. -/
import Derived.Test.YtpjfmfaijcbopaaGreatDoorRf
import Derived.Test.YtpjfmfaijcbopaaGreatDoorLs
import Derived.Deep.CutBlock
import Derived.StillTailTactics
namespace Go.Proofs.YtpjfmfaijcbopaaGreatDoor
open Go.RowKit Go.Proofs

/-- A decimal that is being made: digits, the first of which is no nought; the point is no farther off than the k bytes that were passed. -/
structure DecS (d : Dec) (k : Nat) : Prop where
  le : d.nd ≤ 800
  lo : -(k : Int) ≤ d.dp
  hi : d.dp ≤ 800
  dig : ∀ i, i < d.nd → 48 ≤ d.b i ∧ d.b i ≤ 57
  lead : 0 < d.nd → d.b 0 ≠ 48
theorem DecS.zero {d : Dec} (h0 : d.nd = 0) (h1 : d.dp = 0) (k : Nat) : DecS d k := ⟨by omega, by omega, by omega, fun i hi => by omega, fun h => by omega⟩
theorem DecS.up {d : Dec} {k k' : Nat} (h : DecS d k) (hk : k ≤ k') : DecS d k' := ⟨h.le, by have := h.lo; omega, h.hi, h.dig, h.lead⟩
theorem DecS.dot {d : Dec} {k : Nat} (h : DecS d k) : DecS { d with dp := d.nd } k := ⟨h.le, by show -(k : Int) ≤ (d.nd : Int); omega, by have := h.le; show (d.nd : Int) ≤ 800; omega, h.dig, h.lead⟩
theorem DecS.back {d : Dec} {k : Nat} (h : DecS d k) : DecS { d with dp := d.dp - 1 } (k + 1) := ⟨h.le, by have := h.lo; show -((k + 1 : Nat) : Int) ≤ d.dp - 1; omega, by have := h.hi; show d.dp - 1 ≤ 800; omega, h.dig, h.lead⟩
theorem DecS.tr {d : Dec} {k : Nat} (h : DecS d k) (t : Bool) : DecS { d with tr := t } k := ⟨h.le, h.lo, h.hi, h.dig, h.lead⟩
theorem DecS.push {d : Dec} {k c : Nat} (h : DecS d k) (hl : d.ds.length = 800) (hn : d.nd < 800) (h1 : 48 ≤ c) (h2 : c ≤ 57) (h3 : d.nd = 0 → c ≠ 48) : DecS { d with ds := d.ds.set d.nd c, nd := d.nd + 1 } k := by
  have e1 : ∀ i, i ≠ d.nd → Dec.b { d with ds := d.ds.set d.nd c, nd := d.nd + 1 } i = d.b i := fun i hi => by
    unfold Dec.b
    simp only [List.getD, List.getElem?_set_ne (Ne.symm hi)]
  have e2 : Dec.b { d with ds := d.ds.set d.nd c, nd := d.nd + 1 } d.nd = c := by
    unfold Dec.b
    simp [List.getD, hl, hn]
  refine ⟨by show d.nd + 1 ≤ 800; omega, h.lo, h.hi, fun i hi => ?_, fun _ => ?_⟩
  · have hi' : i < d.nd + 1 := hi
    rcases Nat.lt_or_ge i d.nd with h4 | h4
    · rw [e1 i (by omega)]; exact h.dig i h4
    · obtain rfl : i = d.nd := by omega
      rw [e2]; exact ⟨h1, h2⟩
  · rcases Nat.eq_zero_or_pos d.nd with h4 | h4
    · have : Dec.b { d with ds := d.ds.set d.nd c, nd := d.nd + 1 } 0 = c := by rw [← h4]; rw [h4] at e2 ⊢; exact e2
      rw [this]; exact h3 h4
    · rw [e1 0 (by omega)]; exact h.lead h4
/-- A decimal that is made: nought, or a good one; the point is not too far off. -/
def DecF (d : Dec) : Prop := (d.nd = 0 ∨ d.ok) ∧ d.nd ≤ 800 ∧ -5000000000 ≤ d.dp ∧ d.dp ≤ 5000000000
theorem DecS.fin {d : Dec} {k : Nat} (h : DecS d k) (hk : k ≤ 4294967297) : DecF d := ⟨by
  rcases Nat.eq_zero_or_pos d.nd with h1 | h1
  · exact .inl h1
  · exact .inr ⟨h.le, h1, h.dig, h.lead h1⟩, h.le, by have := h.lo; omega, by have := h.hi; omega⟩
theorem DecS.fin2 {d : Dec} {k : Nat} (h : DecS d k) (z : Int) (h1 : -5000000000 ≤ z) (h2 : z ≤ 5000000000) : DecF { d with dp := z } := ⟨by
  rcases Nat.eq_zero_or_pos d.nd with h1 | h1
  · exact .inl h1
  · exact .inr ⟨h.le, h1, h.dig, h.lead h1⟩, h.le, h1, h2⟩
/-- What set leaves. -/
def SetEnd (b : Nat) (w : World) (e : Ending) (w' : World) : Prop := ∃ (ok : Bool) (d : Dec), e = .returned (.bool ok) ∧ DecAt w' b d ∧ DecF d ∧ Below b w w'

set_option maxRecDepth 100000 in
set_option maxHeartbeats 32000000 in
theorem set214 (s : ByteArray) (b : Nat) (d0 : Dec) (w : World) (h : DecAt w b d0) (hn0 : d0.nd = 0) (hd0 : d0.dp = 0) (hmax : s.size ≤ 4294967297) (hp : 0 < s.size) :
    Calls Tryz.prog 214 #[.pointer (some ⟨b, 0, none⟩), .string s] w (SetEnd b w) := by
  have HI : Hid (∀ (t : ByteArray) (k : Nat) (hk : k < t.size) (w : World), (Instr.index 9 (.string t) (.int .i64 k)).run Tryz.prog w = .ok (.int .u8 (by' t k)) w) := Lib.hid idx_run
  have CL : Hid (∀ c : Nat, c < 256 → ∀ w, Calls Tryz.prog 222 #[.int .u8 c] w fun e w' => e = .returned (.int .u8 (lowN c)) ∧ w = w') := Lib.hid low222
  have hpi : ¬ s = ByteArray.empty := fun h => by rw [h] at hp; exact absurd hp (by decide)
  have hpd : decide (s = ByteArray.empty) = false := decide_eq_false hpi
  have c2 := h.cng
  have c3 := h.ctr
  have f2 := h.free 802
  have f3 := (h.setng false).free 803
  have f4 := ((h.setng false).settr false).free 802
  have HD := Lib.hid ((h.setng false).settr false)
  have HDN := Lib.hid (((h.setng false).settr false).setng true)
  have HB := Lib.hid (((Below.refl b w).setCell (p := ⟨b, 802, none⟩) (Nat.le_refl _) (.bool false)).setCell (p := ⟨b, 803, none⟩) (Nat.le_refl _) (.bool false))
  have HZ := Lib.hid (And.intro hn0 hd0)
  clear h hn0 hd0
  have h0 : ∀ w, (Instr.index 9 (.string s) (.int .i64 0)).run Tryz.prog w = .ok (.int .u8 (by' s 0)) w := fun w => HI.out s 0 hp w
  generalize by' s 0 = c0 at h0
  go_enter Tryz.func214, Tryz.ntmps214
  go_upto_block 0 with fail
  go_cut [5] (fun i wx => ∃ (k : Nat) (d : Dec), i = .int .i64 k ∧ k ≤ 1 ∧ Hid (DecAt wx b d) ∧ Hid (DecS d 0) ∧ Hid (Below b w wx))
  case first => as_aux_lemma =>
    go_wp2_with fail
    · go_meet
      exact ⟨1, _, rfl, by omega, HD, Lib.hid (by refine DecS.zero ?_ ?_ 0; exact HZ.out.1; exact HZ.out.2), HB⟩
    · go_meet
      exact ⟨1, _, rfl, by omega, HDN, Lib.hid (by refine DecS.zero ?_ ?_ 0; exact HZ.out.1; exact HZ.out.2), Lib.hid (HB.out.setCell (p := ⟨b, 802, none⟩) (Nat.le_refl _) _)⟩
    · go_meet
      exact ⟨0, _, rfl, by omega, HD, Lib.hid (by refine DecS.zero ?_ ?_ 0; exact HZ.out.1; exact HZ.out.2), HB⟩
  case rest => as_aux_lemma =>
    obtain ⟨k0, d1, rfl, hk0, HD1, HS1, HB1⟩ := hcut
    clear h0 c2 c3 f2 f3 f4 HD HDN HB HZ
    go_upto_block 1 with fail
    go_cut [5, 6, 7] (fun i sd sg wx => ∃ (k : Nat) (SD SG : Bool) (d : Dec), i = .int .i64 k ∧ sd = .bool SD ∧ sg = .bool SG ∧ k ≤ s.size ∧ Hid (DecAt wx b d) ∧ Hid (DecS d k) ∧ Hid (Below b w wx))
    case first => as_aux_lemma =>
      --B loop
      go_wp2_with fail
      go_loopw [5, 6, 7] (fun i sd sg wx => ∃ (k : Nat) (SD SG : Bool) (d : Dec), i = .int .i64 k ∧ sd = .bool SD ∧ sg = .bool SG ∧ k ≤ s.size ∧ Hid (DecAt wx b d) ∧ Hid (DecS d k) ∧ Hid (Below b w wx)) (fun i _ _ _ => s.size - (intOf i).toNat)
      case atStart => exact ⟨k0, false, false, d1, rfl, rfl, rfl, by omega, HD1, Lib.hid (HS1.out.up (by omega)), HB1⟩
      case round =>
        clear HD1 HS1 HB1
        obtain ⟨K, SD, SG, d, rfl, rfl, rfl, hK, HD, HS, HB⟩ := hrel
        by_cases hlt : K < s.size
        · have hi : (K : Int) < (s.size : Int) := by omega
          have ix := fun w => HI.out s K hlt w
          have hc256 := by'_lt s K
          generalize by' s K = c at ix hc256
          by_cases h95 : c = 95
          · subst h95
            as_aux_lemma =>
              go_wp2_with fail
              go_roundw
              case rel => exact ⟨K + 1, SD, SG, d, by go_num, rfl, rfl, by omega, HD, Lib.hid (HS.out.up (by omega)), HB⟩
              case measure => simp [intOf]; omega
          have q95 : ((c : Int) == 95) = false := by rw [beq_eq_false_iff_ne]; omega
          by_cases h46 : c = 46
          · subst h46
            cases SD
            · have c8 : wr.cell? ⟨b, 800, none⟩ = some (.int .i64 d.nd) := HD.out.cnd
              have c9 : wr.cell? ⟨b, 801, none⟩ = some (.int .i64 d.dp) := HD.out.cdp
              have f1 : wr.frozen? ⟨b, 801, none⟩ = false := HD.out.free 801
              as_aux_lemma =>
                go_wp2_with fail
                go_roundw
                case rel => exact ⟨K + 1, true, SG, { d with dp := d.nd }, by go_num, rfl, rfl, by omega, Lib.hid (HD.out.setdp d.nd), Lib.hid (HS.out.dot.up (by omega)), Lib.hid (HB.out.setCell (p := ⟨b, 801, none⟩) (Nat.le_refl _) _)⟩
                case measure => simp [intOf]; omega
            · as_aux_lemma =>
                go_wp2_with fail
                go_ret
                exact ⟨_, d, rfl, HD.out, HS.out.fin (by omega), HB.out⟩
          have q46 : ((c : Int) == 46) = false := by rw [beq_eq_false_iff_ne]; omega
          by_cases hdg : 48 ≤ c ∧ c ≤ 57
          · obtain ⟨hd1, hd2⟩ := hdg
            have hd3 : (48 : Int) ≤ (c : Int) := by omega
            have hd4 : (c : Int) ≤ 57 := by omega
            by_cases hn0 : c = 48 ∧ d.nd = 0
            · obtain ⟨rfl, hnd0⟩ := hn0
              have c8 : wr.cell? ⟨b, 800, none⟩ = some (.int .i64 0) := by have := HD.out.cnd; rw [hnd0] at this; exact this
              have c9 : wr.cell? ⟨b, 801, none⟩ = some (.int .i64 d.dp) := HD.out.cdp
              have f1 : wr.frozen? ⟨b, 801, none⟩ = false := HD.out.free 801
              have hlo := HS.out.lo
              have hhi := HS.out.hi
              clear hnd0
              as_aux_lemma =>
                go_wp2_with fail
                go_roundw
                case rel => exact ⟨K + 1, SD, true, { d with dp := d.dp - 1 }, by go_num, rfl, rfl, by omega, Lib.hid (HD.out.setdp (d.dp - 1)), Lib.hid HS.out.back, Lib.hid (HB.out.setCell (p := ⟨b, 801, none⟩) (Nat.le_refl _) _)⟩
                case measure => simp [intOf]; omega
            · have hcn : Hid (d.nd = 0 → c ≠ 48) := Lib.hid (fun h1 h2 => hn0 ⟨h2, h1⟩)
              have c8 : wr.cell? ⟨b, 800, none⟩ = some (.int .i64 d.nd) := HD.out.cnd
              have h48 : (((c : Int) == 48) = false) ∨ (c = 48 ∧ (((d.nd : Nat) : Int) == 0) = false) := by
                by_cases h : c = 48
                · right
                  exact ⟨h, by rw [beq_eq_false_iff_ne]; intro h3; exact hn0 ⟨h, by omega⟩⟩
                · left
                  rw [beq_eq_false_iff_ne]; omega
              clear hn0
              obtain ⟨nd, hnd⟩ : ∃ nd, d.nd = nd := ⟨_, rfl⟩
              rw [hnd] at c8 h48
              have HND := Lib.hid hnd
              clear hnd
              by_cases h800 : nd < 800
              · have h800i : (nd : Int) < 800 := by omega
                have cw : wr.cell? ⟨b, nd, none⟩ = some (.int .u8 (d.b nd)) := HD.out.cd nd h800
                have fw : wr.frozen? ⟨b, nd, none⟩ = false := HD.out.free nd
                have f8 := (HD.out.setd nd h800 c).free 800
                have HD2 := Lib.hid HD.out.drew
                have HB2 := Lib.hid HB.out.drew
                have HP := Lib.hid (HS.out.push HD.out.len (by rw [HND.out]; exact h800) hd1 hd2 hcn.out)
                rcases h48 with q48 | ⟨rfl, q48⟩
                · as_aux_lemma =>
                    go_wp2_with fail
                    go_still_tail 11, (by kernel_rfl)
                    change wpList _ _ _ _ _ wr.drew
                    have cw2 : wr.drew.cell? ⟨b, nd, none⟩ = some (.int .u8 (d.b nd)) := cw
                    have fw2 : wr.drew.frozen? ⟨b, nd, none⟩ = false := fw
                    have c82 : wr.drew.cell? ⟨b, 800, none⟩ = some (.int .i64 nd) := c8
                    have f82 : (wr.drew.setCell ⟨b, nd, none⟩ (.int .u8 c)).frozen? ⟨b, 800, none⟩ = false := (HD2.out.setd nd h800 c).free 800
                    have c83 : (wr.drew.setCell ⟨b, nd, none⟩ (.int .u8 c)).cell? ⟨b, 800, none⟩ = some (.int .i64 nd) := by
                      have := (HD2.out.setd nd h800 c).cnd
                      rw [HND.out] at this
                      exact this
                    have HD3 : Hid (DecAt ((wr.drew.setCell ⟨b, nd, none⟩ (.int .u8 c)).setCell ⟨b, 800, none⟩ (.int .i64 ((nd : Int) + 1))) b { d with ds := d.ds.set d.nd c, nd := d.nd + 1 }) := Lib.hid (by
                      have := (HD2.out.setd nd h800 c).setnd (nd + 1)
                      rw [HND.out]
                      exact this)
                    have HB3 : Hid (Below b w ((wr.drew.setCell ⟨b, nd, none⟩ (.int .u8 c)).setCell ⟨b, 800, none⟩ (.int .i64 ((nd : Int) + 1)))) := Lib.hid ((HB2.out.setCell (p := ⟨b, nd, none⟩) (Nat.le_refl _) _).setCell (p := ⟨b, 800, none⟩) (Nat.le_refl _) _)
                    generalize wr.drew = w2 at *
                    go_wp2_with fail
                    go_roundw
                    case rel => exact ⟨K + 1, SD, true, _, by go_num, rfl, rfl, by omega, HD3, Lib.hid (HP.out.up (by omega)), HB3⟩
                    case measure => simp [intOf]; omega
                · as_aux_lemma =>
                    go_wp2_with fail
                    go_still_tail 11, (by kernel_rfl)
                    change wpList _ _ _ _ _ wr.drew
                    have cw2 : wr.drew.cell? ⟨b, nd, none⟩ = some (.int .u8 (d.b nd)) := cw
                    have fw2 : wr.drew.frozen? ⟨b, nd, none⟩ = false := fw
                    have c82 : wr.drew.cell? ⟨b, 800, none⟩ = some (.int .i64 nd) := c8
                    have f82 : (wr.drew.setCell ⟨b, nd, none⟩ (.int .u8 48)).frozen? ⟨b, 800, none⟩ = false := (HD2.out.setd nd h800 48).free 800
                    have c83 : (wr.drew.setCell ⟨b, nd, none⟩ (.int .u8 48)).cell? ⟨b, 800, none⟩ = some (.int .i64 nd) := by
                      have := (HD2.out.setd nd h800 48).cnd
                      rw [HND.out] at this
                      exact this
                    have HD3 : Hid (DecAt ((wr.drew.setCell ⟨b, nd, none⟩ (.int .u8 48)).setCell ⟨b, 800, none⟩ (.int .i64 ((nd : Int) + 1))) b { d with ds := d.ds.set d.nd 48, nd := d.nd + 1 }) := Lib.hid (by
                      have := (HD2.out.setd nd h800 48).setnd (nd + 1)
                      rw [HND.out]
                      exact this)
                    have HB3 : Hid (Below b w ((wr.drew.setCell ⟨b, nd, none⟩ (.int .u8 48)).setCell ⟨b, 800, none⟩ (.int .i64 ((nd : Int) + 1)))) := Lib.hid ((HB2.out.setCell (p := ⟨b, nd, none⟩) (Nat.le_refl _) _).setCell (p := ⟨b, 800, none⟩) (Nat.le_refl _) _)
                    generalize wr.drew = w2 at *
                    go_wp2_with fail
                    go_roundw
                    case rel => exact ⟨K + 1, SD, true, _, by go_num, rfl, rfl, by omega, HD3, Lib.hid (HP.out.up (by omega)), HB3⟩
                    case measure => simp [intOf]; omega
              · have h800i : ¬ (nd : Int) < 800 := by omega
                have c3 : wr.cell? ⟨b, 803, none⟩ = some (.bool d.tr) := HD.out.ctr
                have f3 : wr.frozen? ⟨b, 803, none⟩ = false := HD.out.free 803
                rcases h48 with q48 | ⟨rfl, q48⟩
                · have q48n : ((c : Int) != 48) = true := by
                    rw [bne, q48]; rfl
                  as_aux_lemma =>
                    go_wp2_with fail
                    go_roundw
                    case rel => exact ⟨K + 1, SD, true, { d with tr := true }, by go_num, rfl, rfl, by omega, Lib.hid (HD.out.settr true), Lib.hid ((HS.out.tr true).up (by omega)), Lib.hid (HB.out.setCell (p := ⟨b, 803, none⟩) (Nat.le_refl _) _)⟩
                    case measure => simp [intOf]; omega
                · as_aux_lemma =>
                    go_wp2_with fail
                    go_roundw
                    case rel => exact ⟨K + 1, SD, true, d, by go_num, rfl, rfl, by omega, HD, Lib.hid (HS.out.up (by omega)), HB⟩
                    case measure => simp [intOf]; omega
          · have hout : ¬ (48 : Int) ≤ (c : Int) ∨ ((48 : Int) ≤ (c : Int) ∧ ¬ (c : Int) ≤ 57) := by omega
            rcases hout with ho | ⟨ho1, ho2⟩
            all_goals
              as_aux_lemma =>
                go_wp2_with fail
                go_meet
                exact ⟨K, SD, SG, d, rfl, rfl, rfl, hK, HD, HS, HB⟩
        · have hi : ¬ (K : Int) < (s.size : Int) := by omega
          as_aux_lemma =>
            go_wp2_with fail
            go_meet
            exact ⟨K, SD, SG, d, rfl, rfl, rfl, hK, HD, HS, HB⟩
      --E loop
    case rest => as_aux_lemma =>
      obtain ⟨K, SD, SG, d, rfl, rfl, rfl, hK, HD, HS, HB⟩ := hcut
      clear HD1 HS1 HB1
      cases SG
      · as_aux_lemma =>
          go_wp2_with fail
          go_ret
          exact ⟨_, d, rfl, HD.out, HS.out.fin (by omega), HB.out⟩
      go_upto_if 120 with fail
      go_cut [5] (fun i wx => ∃ d : Dec, i = .int .i64 K ∧ Hid (DecAt wx b d) ∧ Hid (DecS d K) ∧ Hid (Below b w wx))
      case first => as_aux_lemma =>
        cases SD
        · have c8 : wc.cell? ⟨b, 800, none⟩ = some (.int .i64 d.nd) := HD.out.cnd
          have c9 : wc.cell? ⟨b, 801, none⟩ = some (.int .i64 d.dp) := HD.out.cdp
          have f1 : wc.frozen? ⟨b, 801, none⟩ = false := HD.out.free 801
          go_wp2_with fail
          go_meet
          exact ⟨{ d with dp := d.nd }, rfl, Lib.hid (HD.out.setdp d.nd), Lib.hid HS.out.dot, Lib.hid (HB.out.setCell (p := ⟨b, 801, none⟩) (Nat.le_refl _) _)⟩
        · go_wp2_with fail
          go_meet
          exact ⟨d, rfl, HD, HS, HB⟩
      case rest => as_aux_lemma =>
        clear HD HS HB
        obtain ⟨d, rfl, HD, HS, HB⟩ := hcut
        obtain ⟨w1, rfl⟩ : ∃ w1 : World, w1 = wc := ⟨_, rfl⟩
        go_upto_region 32 with fail
        go_cut [138] (fun v wx => ∃ q : Bool, v = .bool q ∧ Hid (q = true → K < s.size) ∧ w1 = wx)
        case first => as_aux_lemma =>
          by_cases hlt : K < s.size
          · have hi : (K : Int) < (s.size : Int) := by omega
            have ix := fun w => HI.out s K hlt w
            have hc256 := by'_lt s K
            generalize by' s K = c at ix hc256
            have CC := Lib.hid (CL.out c hc256)
            generalize lowN c = l at CC
            go_wp2_with (go_at_call 222; refine (CC.out _).mono ?_; rintro e w' ⟨rfl, rfl⟩)
            go_meet
            exact ⟨_, rfl, Lib.hid (fun _ => hlt), rfl⟩
          · have hi : ¬ (K : Int) < (s.size : Int) := by omega
            go_wp2_with fail
            go_meet
            exact ⟨false, rfl, Lib.hid (fun h => (by cases h)), rfl⟩
        case rest => as_aux_lemma =>
          obtain ⟨q, rfl, HQ, rfl⟩ := hcut
          go_upto_if 138 with fail
          go_cut [5] (fun i wx => ∃ (K2 : Nat) (d : Dec), i = .int .i64 K2 ∧ K2 ≤ s.size ∧ Hid (DecAt wx b d) ∧ Hid (DecF d) ∧ Hid (Below b w wx))
          case first => as_aux_lemma =>
            cases q
            · as_aux_lemma =>
                go_wp2_with fail
                go_meet
                exact ⟨K, d, rfl, hK, HD, Lib.hid (HS.out.fin (by omega)), HB⟩
            have hKs := HQ.out rfl
            clear HQ
            by_cases hK1 : K + 1 < s.size
            · have hi1 : ¬ (s.size : Int) ≤ (K : Int) + 1 := by omega
              have ix : ∀ w, (Instr.index 9 (.string s) (.int .i64 ((K : Int) + 1))).run Tryz.prog w = .ok (.int .u8 (by' s (K + 1))) w := fun w => HI.out s (K + 1) hK1 w
              generalize by' s (K + 1) = c at ix
              go_upto_block 4 with fail
              go_cut [5, 8] (fun i es wx => ∃ (K3 : Nat) (E : Int), i = .int .i64 K3 ∧ es = .int .i64 E ∧ (E = 1 ∨ E = -1) ∧ K3 ≤ s.size ∧ w1 = wx)
              case first => as_aux_lemma =>
                go_wp2_with fail
                · go_meet
                  exact ⟨K + 2, 1, by go_num, rfl, .inl rfl, by omega, rfl⟩
                · go_meet
                  exact ⟨K + 2, -1, by go_num, rfl, .inr rfl, by omega, rfl⟩
                · go_meet
                  exact ⟨K + 1, 1, by go_num, rfl, .inl rfl, by omega, rfl⟩
              case rest => as_aux_lemma =>
                clear ix
                obtain ⟨K3, E, rfl, rfl, hE, hK3, rfl⟩ := hcut
                by_cases hlt3 : K3 < s.size
                · have hi3 : ¬ (s.size : Int) ≤ (K3 : Int) := by omega
                  have ix := fun w => HI.out s K3 hlt3 w
                  generalize by' s K3 = c at ix
                  by_cases hdg : 48 ≤ c ∧ c ≤ 57
                  · obtain ⟨hd1, hd2⟩ := hdg
                    have hd3 : ¬ (c : Int) < 48 := by omega
                    have hd4 : ¬ 57 < (c : Int) := by omega
                    go_wp2_with fail
                    go_loopw [5, 9] (fun i e wr => ∃ (K4 : Nat) (E4 : Nat), i = .int .i64 K4 ∧ e = .int .i64 E4 ∧ K4 ≤ s.size ∧ E4 ≤ 100009 ∧ w1 = wr) (fun i _ _ => s.size - (intOf i).toNat)
                    case atStart => exact ⟨K3, 0, rfl, rfl, hK3, by omega, rfl⟩
                    case round =>
                      clear ix hd1 hd2 hd3 hd4 hi3 hlt3
                      obtain ⟨K4, E4, rfl, rfl, hK4, hE4, rfl⟩ := hrel
                      by_cases hlt4 : K4 < s.size
                      · have hi4 : (K4 : Int) < (s.size : Int) := by omega
                        have ix := fun w => HI.out s K4 hlt4 w
                        have hc256 := by'_lt s K4
                        generalize by' s K4 = c at ix hc256
                        by_cases h95 : c = 95
                        · subst h95
                          as_aux_lemma =>
                            go_wp2_with fail
                            go_roundw
                            case rel => exact ⟨K4 + 1, E4, by go_num, rfl, by omega, hE4, by trivial⟩
                            case measure => simp [intOf]; omega
                        have q95 : ((c : Int) == 95) = false := by rw [beq_eq_false_iff_ne]; omega
                        by_cases hdg : 48 ≤ c ∧ c ≤ 57
                        · obtain ⟨hd1, hd2⟩ := hdg
                          have hd3 : (48 : Int) ≤ (c : Int) := by omega
                          have hd4 : (c : Int) ≤ 57 := by omega
                          by_cases he : E4 < 10000
                          · have hei : (E4 : Int) < 10000 := by omega
                            as_aux_lemma =>
                              go_wp2_with fail
                              go_roundw
                              case rel => exact ⟨K4 + 1, E4 * 10 + c - 48, by go_num, congrArg (Value.int .i64) (by omega), by omega, by omega, by trivial⟩
                              case measure => simp [intOf]; omega
                          · have hei : ¬ (E4 : Int) < 10000 := by omega
                            as_aux_lemma =>
                              go_wp2_with fail
                              go_roundw
                              case rel => exact ⟨K4 + 1, E4, by go_num, rfl, by omega, hE4, by trivial⟩
                              case measure => simp [intOf]; omega
                        · have hout : ¬ (48 : Int) ≤ (c : Int) ∨ ((48 : Int) ≤ (c : Int) ∧ ¬ (c : Int) ≤ 57) := by omega
                          have c9 : w1.cell? ⟨b, 801, none⟩ = some (.int .i64 d.dp) := HD.out.cdp
                          have f1 : w1.frozen? ⟨b, 801, none⟩ = false := HD.out.free 801
                          have hlo := HS.out.lo
                          have hhi := HS.out.hi
                          rcases hE with rfl | rfl
                          all_goals
                            rcases hout with ho | ⟨ho1, ho2⟩
                            all_goals
                              as_aux_lemma =>
                                go_wp2_with fail
                                go_meet
                                exact ⟨K4, { d with dp := _ }, rfl, hK4, Lib.hid (HD.out.setdp _), Lib.hid (HS.out.fin2 _ (by omega) (by omega)), Lib.hid (HB.out.setCell (p := ⟨b, 801, none⟩) (Nat.le_refl _) _)⟩
                      · have hi4 : ¬ (K4 : Int) < (s.size : Int) := by omega
                        have c9 : w1.cell? ⟨b, 801, none⟩ = some (.int .i64 d.dp) := HD.out.cdp
                        have f1 : w1.frozen? ⟨b, 801, none⟩ = false := HD.out.free 801
                        have hlo := HS.out.lo
                        have hhi := HS.out.hi
                        rcases hE with rfl | rfl
                        all_goals
                          as_aux_lemma =>
                            go_wp2_with fail
                            go_meet
                            exact ⟨K4, { d with dp := _ }, rfl, hK4, Lib.hid (HD.out.setdp _), Lib.hid (HS.out.fin2 _ (by omega) (by omega)), Lib.hid (HB.out.setCell (p := ⟨b, 801, none⟩) (Nat.le_refl _) _)⟩
                  · have hout : (c : Int) < 48 ∨ (¬ (c : Int) < 48 ∧ 57 < (c : Int)) := by omega
                    rcases hout with ho | ⟨ho1, ho2⟩
                    all_goals
                      as_aux_lemma =>
                        go_wp2_with fail
                        go_ret
                        exact ⟨_, d, rfl, HD.out, HS.out.fin (by omega), HB.out⟩
                · have hi3 : (s.size : Int) ≤ (K3 : Int) := by omega
                  as_aux_lemma =>
                    go_wp2_with fail
                    go_ret
                    exact ⟨_, d, rfl, HD.out, HS.out.fin (by omega), HB.out⟩
            · have hi1 : (s.size : Int) ≤ (K : Int) + 1 := by omega
              as_aux_lemma =>
                go_wp2_with fail
                go_ret
                exact ⟨_, d, rfl, HD.out, HS.out.fin (by omega), HB.out⟩
          case rest => as_aux_lemma =>
            clear HD HS HB
            obtain ⟨K2, d, rfl, hK2, HD, HF, HB⟩ := hcut
            go_wp2_with fail
            all_goals
              go_ret
              exact ⟨_, d, rfl, HD.out, HF.out, HB.out⟩
end Go.Proofs.YtpjfmfaijcbopaaGreatDoor
