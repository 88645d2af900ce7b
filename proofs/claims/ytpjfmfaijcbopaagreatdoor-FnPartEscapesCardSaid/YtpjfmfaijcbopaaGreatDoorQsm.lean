/- scanSingleQuote over a text that begins with a quoted scalar of one line. -/
import Derived.Test.YtpjfmfaijcbopaaGreatDoorQscA
import Derived.Test.YtpjfmfaijcbopaaGreatDoorQscB
import Derived.Deep.LoopGhost
namespace Go.Proofs.YtpjfmfaijcbopaaGreatDoor
open Go.RowKit Go.Proofs

set_option maxRecDepth 1000000 in
set_option maxHeartbeats 16000000 in
theorem scanSingle (B cap : Nat) (rs ls : List Int) (T : Option (List Int)) (w : World) (h : Ready w B rs cap) (hcap : rs.length ≤ cap) (hq : Quo 39 rs ls) (hT : sq ls = T)
    (hnx : ls.length + 2 < rs.length → rs.getD (ls.length + 2) 0 ≠ 39) (hno : T ≠ none) :
    Calls Tryz.prog 100 #[.pointer (some ⟨B, 0, none⟩), .pointer (some ⟨B + 3, 0, none⟩)] w (QEnd B 18 ls.length T w) := by
  have hz := h.size
  have hst := h.st
  have hrn := h.rune
  clear h
  obtain ⟨s, hs⟩ : ∃ s, S.start (B + 1) (B + 2) rs.length cap = s := ⟨_, rfl⟩
  rw [hs] at hst
  have es : s.idx = 0 ∧ s.pos = 0 ∧ s.obuf = .slice none 0 0 ∧ s.csrc = .slice (some ⟨B + 1, 0, none⟩) rs.length cap := by
    subst hs; exact ⟨rfl, rfl, rfl, rfl⟩
  obtain ⟨e1, e2, e3, e4⟩ := es
  have cO := addOrigin2 B (B + 3) s (B + 4) 0 [] 39 w hst (by rw [e3]; exact World.ownsRow_nil _ _ _ _) (by omega) (by omega)
  have ES := Lib.hid (And.intro e1 (And.intro e2 (And.intro e3 e4)))
  have HRN := Lib.hid hrn
  have HQ := Lib.hid hq
  have HT := Lib.hid hT
  have HNX := Lib.hid hnx
  have HNO := Lib.hid hno
  have HZ := Lib.hid hz
  have hlen := hq.len
  have hbig := hq.big
  have hmost := hq.most
  clear hs hst hrn hq hT hnx hno hz e1 e2 e3 e4
  go_enter Tryz.func100, Tryz.ntmps100
  go_wp2_with fail
  refine cO.mono ?_
  rintro e w1 ⟨rfl, g, c, nso, hst1, hown1, hk1, hfr1⟩
  have hk1' : Kept (fun k => k = B + 3) w w1 := hk1.mono (fun k _ hk => by rcases hk with hk | hk; exact hk; rw [ES.out.2.2.1] at hk; simp [Value.ownBlock] at hk)
  have HK1 := Lib.hid hk1'
  have HOWN1 := Lib.hid hown1
  have HFR1 : Hid (w.heap.size ≤ g) := Lib.hid (by rcases hfr1 with h | h; rw [ES.out.2.2.1] at h; simp [Value.ownBlock] at h; exact h)
  have HST1 := Lib.hid hst1
  have lb := hst1.sc.lt
  have lc := hst1.cx.lt
  clear hst1 hown1 hk1 hk1' hfr1 cO
  go_wp2_with fail
  refine (pos106 B w1 _ HST1.out.sc).mono ?_
  rintro e w2 ⟨rfl, hw2⟩
  have HP2 : Hid (Blk w2 w1.heap.size (posCells { s with obuf := .slice (some ⟨g, 0, none⟩) (0 + 1) c, nso := nso }) 116) := Lib.hid (by rw [hw2]; exact (Blk.new w1 _ 116).drew)
  have HB2 : Hid (Below w1.heap.size w1 w2) := Lib.hid (by rw [hw2]; exact ((Below.refl _ _).alloc (Nat.le_refl _) _).drew)
  have HS2 : Hid (w2.heap.size = w1.heap.size + 1) := Lib.hid (by rw [hw2]; simp)
  clear hw2
  have HST2 := Lib.hid (HST1.out.below HB2.out)
  have z0 := HST2.out.cx.cell 0 _ rfl
  have z4 := HST2.out.cx.cell 4 _ rfl
  simp only [] at z0 z4
  rw [ES.out.1] at z0
  rw [ES.out.2.2.2] at z4
  go_wp2_with fail
  have hbz : Below B w w2 := ((HK1.out.below (B := B) (by have := HZ.out; omega) (fun k hk => by omega)).trans (HB2.out.mono (by have := HK1.out.size; have := HZ.out; omega)))
  obtain ⟨pb, hpb⟩ : ∃ pb, w1.heap.size = pb := ⟨_, rfl⟩
  rw [hpb] at HP2 HS2
  have hpb1 : B + 4 ≤ pb := by have := HK1.out.size; have := HZ.out; omega
  have hgl : g < w1.heap.size := (HOWN1.out.lt g rfl).2
  obtain ⟨w3, hw3⟩ : ∃ w3, w2.alloc (.cells #[] 21) = w3 := ⟨_, rfl⟩
  have hs3 : w3.heap.size = pb + 2 := by rw [← hw3]; have := HS2.out; simp; omega
  have hb3 : Below w2.heap.size w2 w3 := by rw [← hw3]; exact (Below.refl _ _).alloc (Nat.le_refl _) _
  have HL : Hid (Lie B (B + 1) pb w3) := Lib.hid ⟨rfl, hpb1, by omega⟩
  have HBW : Hid (Below B w w3) := Lib.hid (hbz.trans (hb3.mono (by have := HS2.out; omega)))
  have HPB3 : Hid (Blk w3 pb (posCells { s with obuf := .slice (some ⟨g, 0, none⟩) (0 + 1) c, nso := nso }) 116) := Lib.hid ((Kept.of_below (S := fun _ => False) hb3).blk HP2.out (fun h => h))
  have HS2' := HS2.out
  have HQ3 : Hid (QSt B (B + 1) pb s w3 0 0 [] (pb + 1) 0 w3) := Lib.hid (by
    refine ⟨g, c, nso, [39], s.col, s.off, ?_, ?_, ?_, ?_, Kept.refl _ _⟩
    · have e : ({ s with idx := ((0 : Nat) : Int), pos := ((0 : Nat) : Int), col := s.col, off := s.off, obuf := .slice (some ⟨g, 0, none⟩) (0 + 1) c, nso := nso } : S) = { s with obuf := .slice (some ⟨g, 0, none⟩) (0 + 1) c, nso := nso } := by
        obtain ⟨h1, h2, _, _⟩ := ES.out
        cases s
        simp only [] at h1 h2
        subst h1
        subst h2
        rfl
      rw [e]
      exact HST2.out.below hb3
    · have k1 : Kept (fun _ => False) w1 w3 := (Kept.of_below HB2.out).trans (Kept.of_below hb3)
      exact k1.owns HOWN1.out (fun k _ h => h)
    · refine ⟨rfl, .inr ⟨pb + 1, 0, #[], rfl, by omega, ?_, by simp, by unfold maxLen; omega, rfl, rfl⟩⟩
      rw [← hw3]
      have := Blk.new w2 [] 21
      rw [HS2'] at this
      exact this
    · exact ⟨by omega, by omega, by omega⟩)
  have HRN3 : Hid (∀ i, i < rs.length → w3.cell? ⟨B + 1, i, none⟩ = some (.int .i32 (rs.getD i 0))) := Lib.hid (fun i hi => by
    have k1 : Kept (fun k => k = B + 3) w w3 := HK1.out.trans ((Kept.of_below HB2.out).trans (Kept.of_below hb3))
    exact k1.cell (HRN.out i hi) (by simp only []; omega))
  rw [hw3]
  clear hw3 hbz hb3 HP2 HOWN1 HFR1 HST1 HST2 HB2 HS2 HK1 z0 z4 hgl HRN
  have HRN := Lib.hid HRN3.out
  clear HRN3
  rw [hpb, HS2']
  clear HS2'
  clear hpb
  have hpos : ∃ ps, Blk w3 pb (posCells ps) 116 := ⟨_, HPB3.out⟩
  have HC : Hid (QsC B pb cap rs ls T s w3) := Lib.hid ⟨HL.out, HQ.out, HT.out, HNX.out, HRN.out, ES.out.2.2.2, hpos, hcap⟩
  refine wp_loop_ghost_k (QsI B pb cap rs ls s w3) ls.length ?_ ?_
  · exact QsI.mk 0 0 (pb + 1) 0 [] (by kernel_rfl) (by omega) (by omega) (by simp) HQ3.out (RsRel.start ls)
  · intro k a wr hI J K hJ hK
    obtain ⟨j, no, gv, cv, acc, g', rfl, hkj, hno, hal, hq, hr⟩ := hI
    have HK : Hid (∀ a' w', (∃ k', k' < ls.length - j ∧ QsI B pb cap rs ls s w3 k' a' w') → K a' w') := Lib.hid (fun a' w' ⟨k', h1, h2⟩ => hK a' w' ⟨k', by omega, hJ _ _ _ h2⟩)
    by_cases hlt : j < ls.length
    · by_cases h39 : ls.getD j 0 = 39
      · have hj1 : j + 1 < ls.length := by
          rcases Nat.lt_or_ge (j + 1) ls.length with h | h
          · exact h
          · exact absurd (HT.out.symm.trans (hr.last (by omega) h39)) HNO.out
        have hd : ls.getD (j + 1) 0 = 39 := by
          rcases Decidable.em (ls.getD (j + 1) 0 = 39) with h | h
          · exact h
          · exact absurd (HT.out.symm.trans (hr.one hj1 h39 h)) HNO.out
        exact qs_two HC j no gv cv acc g' wr hlt hno hal (Lib.hid hq) hj1 h39 hd (Lib.hid (hr.two hj1 h39 hd)) K _ HK
      · exact qs_plain HC j no gv cv acc g' wr hlt hno hal (Lib.hid hq) (Lib.hid hr) h39 K _ HK
    · rcases Nat.lt_or_ge (ls.length + 2) rs.length with h2 | h2
      · exact qs_end2 HC HBW j no gv cv acc g' wr (by omega) hno hal (Lib.hid hq) (Lib.hid hr) h2 K _ (Lib.hid (fun _ _ h => h))
      · exact qs_end1 HC HBW j no gv cv acc g' wr (by omega) hno hal (Lib.hid hq) (Lib.hid hr) (by omega) K _ (Lib.hid (fun _ _ h => h))
end Go.Proofs.YtpjfmfaijcbopaaGreatDoor
