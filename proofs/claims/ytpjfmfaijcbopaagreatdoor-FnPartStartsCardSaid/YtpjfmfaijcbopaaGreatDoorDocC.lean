/- Lemmas and contracts of functions of the program, for the statements of this seat: DocC. -/
import Derived.Test.YtpjfmfaijcbopaaGreatDoorDocB
import Derived.Laws.Cover4
namespace Go.Proofs.YtpjfmfaijcbopaaGreatDoor
open Go.RowKit

set_option maxHeartbeats 1000000 in
theorem docEnd_no (B cap : Nat) (rs : List Int) (w : World) (h : Ready w B rs cap) (hlen : rs.length ≤ 70368744177664) (hno : runOf 46 rs ≠ 3) :
    Calls Tryz.prog 55 #[.pointer (some ⟨B, 0, none⟩), .pointer (some ⟨B + 3, 0, none⟩)] w fun e w' => e = .returned (.bool false) ∧ w' = w := by
  have c := repeatNum (B + 3) (B + 1) cap rs 46 w (h.cx.cell 0 _ rfl) (h.cx.cell 1 _ rfl) (h.cx.cell 4 _ rfl) h.rune hlen
  have s7 := h.sc.cell 7 _ rfl
  have s4 := h.sc.cell 4 _ rfl
  obtain ⟨k, hk⟩ : ∃ k, runOf 46 rs = k := ⟨_, rfl⟩
  rw [hk] at c hno
  clear h hk
  have hb : ((k : Int) != 3) = true := by simp; omega
  go_enter Tryz.func55, Tryz.ntmps55
  go_wp2_with (go_at_call 103; refine c.mono ?_; rintro e w' ⟨rfl, rfl⟩)
  go_ret
  exact ⟨rfl, rfl⟩

set_option maxHeartbeats 2000000 in
theorem docEnd_yes (B cap : Nat) (rs : List Int) (w : World) (h : Ready w B rs cap) (hlen : rs.length ≤ 70368744177664) (hno : runOf 46 rs = 3) :
    Calls Tryz.prog 55 #[.pointer (some ⟨B, 0, none⟩), .pointer (some ⟨B + 3, 0, none⟩)] w fun e w' => e = .returned (.bool true) ∧ Below B w w' := by
  have c := repeatNum (B + 3) (B + 1) cap rs 46 w (h.cx.cell 0 _ rfl) (h.cx.cell 1 _ rfl) (h.cx.cell 4 _ rfl) h.rune hlen
  rw [hno] at c
  have hb : ((3 : Int) != 3) = false := by simp
  have s4 := h.sc.cell 4 _ rfl
  have s7 := h.sc.cell 7 _ rfl
  have hz := h.size
  have ho := own_toks h
  have hst := h.st
  clear h
  obtain ⟨s, hs⟩ : ∃ s, S.start (B + 1) (B + 2) rs.length cap = s := ⟨_, rfl⟩
  rw [hs] at hst
  have es : s.idx = 0 ∧ s.pos = 0 ∧ s.buf = .slice none 0 0 ∧ s.obuf = .slice none 0 0 ∧ s.toks = .slice (some ⟨B + 2, 0, none⟩) 0 0 := by subst hs; exact ⟨rfl, rfl, rfl, rfl, rfl⟩
  have cA := addBuffered B (B + 3) w s hst es.1 es.2.2.1
  have HST := Lib.hid hst
  have HO := Lib.hid ho
  have ES := Lib.hid es
  have HZ := Lib.hid hz
  clear hst ho es hs hz
  go_enter Tryz.func55, Tryz.ntmps55
  go_wp2_with (first | (go_at_call 103; refine c.mono ?_; rintro e w' ⟨rfl, rfl⟩) | (go_at_call 104; refine cA.mono ?_; rintro e w1 ⟨rfl, hb1⟩))
  have hst1 := HST.out.below hb1
  have HO1 : Hid (w1.ownsRow B 56 1 s.toks 0 []) := by rw [ES.out.2.2.2.2]; exact (Kept.of_below (S := fun _ => False) hb1).owns HO.out (by simp)
  have hB1 : B ≤ w1.heap.size := by have := hb1.size; rw [HZ.out] at this; omega
  have x6 := hst1.cx.cell 6 _ rfl
  rw [ES.out.2.2.2.1] at x6
  have y3 := hst1.sc.cell 3 _ rfl
  have y4 := hst1.sc.cell 4 _ rfl
  have y5 := hst1.sc.cell 5 _ rfl
  have y7 := hst1.sc.cell 7 _ rfl
  have y9 := hst1.sc.cell 9 _ rfl
  have lx := hst1.cx.lt
  have ls := hst1.sc.lt
  have HST1 := Lib.hid hst1
  have HB1 := Lib.hid hb1
  clear hst1 hb1 cA c HST HO
  have kc := fun (w : World) => run_convert_runes_nil (P := Tryz.prog) w 27 9 21 0 0 Tryz.underlying27 Tryz.underlying21 Tryz.underlying9
  go_region_held3 (fun w' => w'.cell? ⟨B + 3, 6, none⟩ = some (.slice none 0 0))
    (go_keep)
    (first
      | (go_at_call 106; refine (pos106 B _ s (HST1.out.sc.drew)).mono ?_; rintro e w' ⟨rfl, rfl⟩)
      | (go_at_call 62; refine (docEndTok _ _ _).mono ?_; rintro e w' ⟨rfl, rfl⟩)
      | (go_at_call 105; refine (addToken B (B + 3) s _ B 0 [] _ (((HST1.out.drew.alloc _).drew).alloc _) (((((Kept.refl (fun _ => False) w1).drew.alloc _).drew).alloc _).owns HO1.out (by simp)) (by simp; omega) (by omega)).mono ?_; rintro e w' ⟨v', rfl, hst2, ho2, hk2⟩; have k6 := hst2.cx.cell 6 _ rfl; rw [ES.out.2.2.2.1] at k6))
  have HS2 := Lib.hid hst2
  have HK2 := Lib.hid hk2
  clear hst2 ho2 hk2
  go_wp2_with fail
  have cP := progCol B (B + 3) { s with toks := v' } 3 w' HS2.out (by simp [ES.out.1]) (by simp [ES.out.2.1]) (by omega) (by simp [ES.out.1]) (by simp [ES.out.2.1])
  refine cP.mono ?_
  rintro e w3 ⟨rfl, col, off, hst3, hk3⟩
  have HS3 := Lib.hid hst3
  have HK3 := Lib.hid hk3
  clear hst3 hk3 cP
  go_wp2_with fail
  have cC := clear108 B (B + 3) _ w3 HS3.out ES.out.2.2.1 (.inl ES.out.2.2.2.1)
  refine cC.mono ?_
  rintro e w4 ⟨rfl, v4, m4, hst4, hk4⟩
  have HK4 := Lib.hid hk4
  clear hst4 hk4 cC
  go_wp2
  go_ret
  refine ⟨rfl, ?_⟩
  have k1 : Kept (fun k => B ≤ k) w w1 := Kept.of_below HB1.out
  have k2 := HK2.out.mono (T := fun k => B ≤ k) (fun k _ hk => by
    rcases hk with rfl | hk
    · omega
    · rw [ES.out.2.2.2.2] at hk; simp [Value.ownBlock] at hk; omega)
  have k3 := HK3.out.mono (T := fun k => B ≤ k) (fun k _ hk => by rcases hk with rfl | rfl <;> omega)
  have k4 := HK4.out.mono (T := fun k => B ≤ k) (fun k _ hk => by subst hk; omega)
  exact ((((((k1.drew.alloc _).drew).alloc _).trans k2).trans k3).trans k4).below (by rw [HZ.out]; omega) (fun k hk => by omega)

set_option maxHeartbeats 1000000 in
/-- impl.Ends: are there just three points at the beginning of a text? -/
theorem ends (s : ByteArray) (w : World) (hs : s.size ≤ 70368744177664) :
    Calls Tryz.prog 13 #[.string s] w fun e w' => e = .returned (.bool (runOf 46 (runes s) == 3)) ∧ Below w.heap.size w w' := by
  have hl : (runes s).length ≤ 70368744177664 := Nat.le_trans (runes_length s) hs
  have cz := zzAt s w hs
  have key : ∀ (B cap : Nat) (w1 : World), Ready w1 B (runes s) cap → Calls Tryz.prog 55 #[.pointer (some ⟨B, 0, none⟩), .pointer (some ⟨B + 3, 0, none⟩)] w1 fun e w' => e = .returned (.bool (runOf 46 (runes s) == 3)) ∧ Below B w1 w' := by
    intro B cap w1 hr
    by_cases h3 : runOf 46 (runes s) = 3
    · refine (docEnd_yes B cap _ w1 hr hl h3).mono ?_
      rintro e w' ⟨rfl, hb⟩
      exact ⟨by rw [h3]; rfl, hb⟩
    · refine (docEnd_no B cap _ w1 hr hl h3).mono ?_
      rintro e w' ⟨rfl, rfl⟩
      exact ⟨by rw [show (runOf 46 (runes s) == 3) = false by simpa using h3], Below.refl _ _⟩
  have KEY := Lib.hid key
  clear key
  obtain ⟨b, hb⟩ : ∃ b, (runOf 46 (runes s) == 3) = b := ⟨_, rfl⟩
  rw [hb] at KEY ⊢
  clear hb hl
  go_enter Tryz.func13, Tryz.ntmps13
  go_wp2_with (first | (go_at_call 54; refine cz.mono ?_; rintro e w1 ⟨cap, rfl, hb1, hr1, hc1⟩) | (go_at_call 55; refine (KEY.out _ _ _ hr1).mono ?_; rintro e w2 ⟨rfl, hb2⟩) | go_in)
  go_ret
  exact ⟨rfl, hb1.trans hb2⟩
end Go.Proofs.YtpjfmfaijcbopaaGreatDoor
