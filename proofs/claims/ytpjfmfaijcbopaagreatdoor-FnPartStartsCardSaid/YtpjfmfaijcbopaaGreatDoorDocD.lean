/- Lemmas and contracts of functions of the program, for the statements of this seat: DocD. -/
import Derived.Test.YtpjfmfaijcbopaaGreatDoorDocC
import Derived.Test.YtpjfmfaijcbopaaGreatDoorSpec
namespace Go.Proofs.YtpjfmfaijcbopaaGreatDoor
open Go.RowKit

set_option maxHeartbeats 1000000 in
theorem clearState (sb cb : Nat) (s : S) (w : World) (h : St w sb cb s) :
    Calls Tryz.prog 109 #[.pointer (some ⟨sb, 0, none⟩)] w fun e w' => e = .returned (.tuple #[]) ∧ Kept (fun k => k = sb) w w' := by
  have c8 := h.sc.cell 8 _ rfl
  have c6 := h.sc.cell 6 _ rfl
  have c9 := h.sc.cell 9 _ rfl
  have c7 := h.sc.cell 7 _ rfl
  have f8 := h.sc.free 8
  have f6 := h.sc.free 6
  have f9 := h.sc.free 9
  have f7 := h.sc.free 7
  clear h
  go_enter Tryz.func109, Tryz.ntmps109
  go_wp2
  go_end0
  exact ⟨rfl, ((((Kept.refl _ w).one _ _).one _ _).one _ _).one _ _⟩

/-- Is a text's beginning taken for the marker of a document's beginning? -/
def startB (rs : List Int) : Bool := (runOf 45 rs == 3) && (decide (rs.length ≤ 3) || (rs.getD 3 0 == 32 || (rs.getD 3 0 == 9 || (rs.getD 3 0 == 10 || rs.getD 3 0 == 13))))

set_option maxHeartbeats 1000000 in
theorem docStart_no (B cap : Nat) (rs : List Int) (w : World) (h : Ready w B rs cap) (hlen : rs.length ≤ 70368744177664) (hno : runOf 45 rs ≠ 3) :
    Calls Tryz.prog 56 #[.pointer (some ⟨B, 0, none⟩), .pointer (some ⟨B + 3, 0, none⟩)] w fun e w' => e = .returned (.bool false) ∧ Below w.heap.size w w' := by
  have c := repeatNum (B + 3) (B + 1) cap rs 45 w (h.cx.cell 0 _ rfl) (h.cx.cell 1 _ rfl) (h.cx.cell 4 _ rfl) h.rune hlen
  have s7 := h.sc.cell 7 _ rfl
  have s4 := h.sc.cell 4 _ rfl
  obtain ⟨k, hk⟩ : ∃ k, runOf 45 rs = k := ⟨_, rfl⟩
  rw [hk] at c hno
  clear h hk
  have hb : ((k : Int) != 3) = true := by simp; omega
  go_enter Tryz.func56, Tryz.ntmps56
  go_wp2_with (go_at_call 103; refine c.mono ?_; rintro e w' ⟨rfl, rfl⟩)
  go_ret
  exact ⟨rfl, Below.refl _ _⟩

set_option maxHeartbeats 2000000 in
theorem docStart_other (B cap : Nat) (rs : List Int) (w : World) (h : Ready w B rs cap) (hlen : rs.length ≤ 70368744177664) (h3 : runOf 45 rs = 3) (hl : 3 < rs.length)
    (hno : rs.getD 3 0 ≠ 32 ∧ rs.getD 3 0 ≠ 9 ∧ rs.getD 3 0 ≠ 10 ∧ rs.getD 3 0 ≠ 13) :
    Calls Tryz.prog 56 #[.pointer (some ⟨B, 0, none⟩), .pointer (some ⟨B + 3, 0, none⟩)] w fun e w' => e = .returned (.bool false) ∧ Below w.heap.size w w' := by
  have c := repeatNum (B + 3) (B + 1) cap rs 45 w (h.cx.cell 0 _ rfl) (h.cx.cell 1 _ rfl) (h.cx.cell 4 _ rfl) h.rune hlen
  rw [h3] at c
  have s7 := h.sc.cell 7 _ rfl
  have s4 := h.sc.cell 4 _ rfl
  have x0 := h.cx.cell 0 _ rfl
  have x1 := h.cx.cell 1 _ rfl
  have x4 := h.cx.cell 4 _ rfl
  have r3 := h.rune 3 hl
  obtain ⟨x, hx⟩ : ∃ x, rs.getD 3 0 = x := ⟨_, rfl⟩
  rw [hx] at r3 hno
  obtain ⟨n1, n2, n3, n4⟩ := hno
  have b1 : (x != 32) = true := by simpa using n1
  have b2 : (x != 9) = true := by simpa using n2
  have b3 : (x != 10) = true := by simpa using n3
  have b4 : (x != 13) = true := by simpa using n4
  have hl' : (3 : Int) < (rs.length : Int) := by omega
  have hb : ((3 : Int) != 3) = false := by simp
  clear h h3 hx n1 n2 n3 n4
  go_enter Tryz.func56, Tryz.ntmps56
  go_wp2_with (go_at_call 103; refine c.mono ?_; rintro e w' ⟨rfl, rfl⟩)
  go_quiet (fail)
  go_wp2
  go_quiet (fail)
  go_wp2
  go_ret
  exact ⟨rfl, below_drewN (Below.refl _ _) _⟩

/-- What the way past the tests of scanDocumentStart asks of them. -/
def StartWay (rs : List Int) : Prop :=
  rs.length ≤ 3 ∨ (3 < rs.length ∧ (rs.getD 3 0 = 32 ∨ rs.getD 3 0 = 9 ∨ rs.getD 3 0 = 10 ∨ rs.getD 3 0 = 13))

set_option maxHeartbeats 8000000 in
theorem docStart_yes (B cap : Nat) (rs : List Int) (w : World) (h : Ready w B rs cap) (hlen : rs.length ≤ 70368744177664) (h3 : runOf 45 rs = 3) (hw : StartWay rs) :
    Calls Tryz.prog 56 #[.pointer (some ⟨B, 0, none⟩), .pointer (some ⟨B + 3, 0, none⟩)] w fun e w' => e = .returned (.bool true) ∧ Below B w w' := by
  have c := repeatNum (B + 3) (B + 1) cap rs 45 w (h.cx.cell 0 _ rfl) (h.cx.cell 1 _ rfl) (h.cx.cell 4 _ rfl) h.rune hlen
  rw [h3] at c
  have hb : ((3 : Int) != 3) = false := by simp
  have s4 := h.sc.cell 4 _ rfl
  have s7 := h.sc.cell 7 _ rfl
  have x0 := h.cx.cell 0 _ rfl
  have x1 := h.cx.cell 1 _ rfl
  have x4 := h.cx.cell 4 _ rfl
  have hz := h.size
  have ho := own_toks h
  have hst := h.st
  have hrn := h.rune
  clear h h3
  obtain ⟨s, hs⟩ : ∃ s, S.start (B + 1) (B + 2) rs.length cap = s := ⟨_, rfl⟩
  rw [hs] at hst
  have es : s.idx = 0 ∧ s.pos = 0 ∧ s.buf = .slice none 0 0 ∧ s.obuf = .slice none 0 0 ∧ s.toks = .slice (some ⟨B + 2, 0, none⟩) 0 0 := by subst hs; exact ⟨rfl, rfl, rfl, rfl, rfl⟩
  have cA : ∀ n, Calls Tryz.prog 104 #[.pointer (some ⟨B, 0, none⟩), .pointer (some ⟨B + 3, 0, none⟩)] (w.drewN n) fun e w' => e = .returned (.tuple #[]) ∧ Below w.heap.size w w' := fun n =>
    (addBuffered B (B + 3) (w.drewN n) s (hst.below (below_drewN (Below.refl _ _) _)) es.1 es.2.2.1).mono (fun e w' ⟨he, hb⟩ => ⟨he, (below_drewN (Below.refl _ _) n).trans hb⟩)
  have HST := Lib.hid hst
  have HO := Lib.hid ho
  have ES := Lib.hid es
  have HZ := Lib.hid hz
  have CA := Lib.hid cA
  have kc := fun (w : World) => run_convert_runes_nil (P := Tryz.prog) w 27 9 21 0 0 Tryz.underlying27 Tryz.underlying21 Tryz.underlying9
  have TAIL : Hid (∀ (w1 : World), Below w.heap.size w w1 → St w1 B (B + 3) s ∧ w1.ownsRow B 56 1 s.toks 0 [] ∧ B ≤ w1.heap.size) := Lib.hid (fun w1 hb1 =>
    ⟨HST.out.below hb1, by rw [ES.out.2.2.2.2]; exact (Kept.of_below (S := fun _ => False) hb1).owns HO.out (by simp), by have := hb1.size; rw [HZ.out] at this; omega⟩)
  have FIN : Hid (∀ (w1 w2 w3 w4 w5 : World), Below w.heap.size w w1 → Kept (fun k => k = B + 3 ∨ some k = s.toks.ownBlock) w1 w2 → Kept (fun k => k = B ∨ k = B + 3) w2 w3 → Kept (fun k => k = B + 3) w3 w4 → Kept (fun k => k = B) w4 w5 → Below B w w5) := Lib.hid (fun w1 w2 w3 w4 w5 k1 k2 k3 k4 k5 => by
    have k1 : Kept (fun k => B ≤ k) w w1 := Kept.of_below k1
    have k2 := k2.mono (T := fun k => B ≤ k) (fun k _ hk => by
      rcases hk with rfl | hk
      · omega
      · rw [ES.out.2.2.2.2] at hk; simp [Value.ownBlock] at hk; omega)
    have k3 := k3.mono (T := fun k => B ≤ k) (fun k _ hk => by rcases hk with rfl | rfl <;> omega)
    have k4 := k4.mono (T := fun k => B ≤ k) (fun k _ hk => by subst hk; omega)
    have k5 := k5.mono (T := fun k => B ≤ k) (fun k _ hk => by subst hk; omega)
    exact ((((k1.trans k2).trans k3).trans k4).trans k5).below (by rw [HZ.out]; omega) (fun k hk => by omega))
  clear hst ho es hs hz cA HST HO HZ
  have ways : (¬ (3 : Int) < (rs.length : Int)) ∨ ((3 : Int) < (rs.length : Int) ∧ ∃ x, w.cell? ⟨B + 1, 3, none⟩ = some (.int .i32 x) ∧
      ((x != 32) = false ∨ ((x != 32) = true ∧ (x != 9) = false) ∨ ((x != 32) = true ∧ (x != 9) = true ∧ (x != 10) = false) ∨ ((x != 32) = true ∧ (x != 9) = true ∧ (x != 10) = true ∧ (x != 13) = false))) := by
    rcases hw with hw | ⟨hl, hx⟩
    · exact .inl (by omega)
    · refine .inr ⟨by omega, _, hrn 3 hl, ?_⟩
      rcases hx with hx | hx | hx | hx <;> rw [hx] <;> simp
  clear hw hrn
  rcases ways with hl | ⟨hl, x, hx, b1 | ⟨b1, b2⟩ | ⟨b1, b2, b3⟩ | ⟨b1, b2, b3, b4⟩⟩
  all_goals
    go_enter Tryz.func56, Tryz.ntmps56
    go_wp2_with (go_at_call 103; refine c.mono ?_; rintro e w' ⟨rfl, rfl⟩)
    go_quiet (fail)
  rotate_left
  all_goals (first | (go_wp2; go_quiet (fail)) | skip)
  all_goals
    go_wp2_with (go_at_call 104; refine (CA.out _).mono ?_; rintro e w1 ⟨rfl, hb1⟩)
    obtain ⟨hst1, ho1, hB1⟩ := TAIL.out w1 hb1
    have HO1 := Lib.hid ho1
    have x6 := hst1.cx.cell 6 _ rfl
    rw [ES.out.2.2.2.1] at x6
    have lx := hst1.cx.lt
    have ls := hst1.sc.lt
    have HST1 := Lib.hid hst1
    have HB1 := Lib.hid hb1
    clear hst1 hb1 c CA ho1
    go_region_held3 (fun w' => w'.cell? ⟨B + 3, 6, none⟩ = some (.slice none 0 0))
      (go_keep)
      (first
        | (go_at_call 106; refine (pos106 B _ s (HST1.out.sc.drew)).mono ?_; rintro e w' ⟨rfl, rfl⟩)
        | (go_at_call 61; refine (docStartTok _ _ _).mono ?_; rintro e w' ⟨rfl, rfl⟩)
        | (go_at_call 105; refine (addToken B (B + 3) s _ B 0 [] _ (((HST1.out.drew.alloc _).drew).alloc _) (((((Kept.refl (fun _ => False) w1).drew.alloc _).drew).alloc _).owns HO1.out (by simp)) (by simp; omega) (by omega)).mono ?_; rintro e w' ⟨v', rfl, hst2, ho2, hk2⟩; have k6 := hst2.cx.cell 6 _ rfl; rw [ES.out.2.2.2.1] at k6))
    have HS2 := Lib.hid hst2
    have HK2 := Lib.hid hk2
    clear hst2 ho2 hk2
    go_wp2_with fail
    have cP := progCol B (B + 3) { s with toks := v' } 3 w' HS2.out (by simp [ES.out.1]) (by simp [ES.out.2.1]) (by omega) (by simp [ES.out.1]) (by simp [ES.out.2.1])
    refine cP.mono ?_
    rintro e w3 ⟨rfl, col, off, hst3, hk3⟩
    have HS3 := Lib.hid hst3
    have HK3 := Lib.hid hk3
    clear hst3 hk3 cP
    go_wp2_with fail
    have cC := clear108 B (B + 3) _ w3 HS3.out ES.out.2.2.1 (.inl ES.out.2.2.2.1)
    refine cC.mono ?_
    rintro e w4 ⟨rfl, v4, m4, hst4, hk4⟩
    have cD := clearState B (B + 3) _ w4 hst4
    have HK4 := Lib.hid hk4
    clear hst4 hk4 cC
    go_wp2_with (go_at_call 109; refine cD.mono ?_; rintro e w5 ⟨rfl, hk5⟩)
    have HK5 := Lib.hid hk5
    clear hk5
    go_ret
    exact ⟨rfl, FIN.out w1 _ _ _ _ HB1.out (((((Kept.refl _ w1).drew.alloc _).drew).alloc _).trans HK2.out) HK3.out HK4.out HK5.out⟩

set_option maxHeartbeats 1000000 in
/-- impl.Starts. -/
theorem starts (s : ByteArray) (w : World) (hs : s.size ≤ 70368744177664) :
    Calls Tryz.prog 14 #[.string s] w fun e w' => e = .returned (.bool (startB (runes s))) ∧ Below w.heap.size w w' := by
  have hl : (runes s).length ≤ 70368744177664 := Nat.le_trans (runes_length s) hs
  have cz := zzAt s w hs
  have key : ∀ (B cap : Nat) (w1 : World), Ready w1 B (runes s) cap → Calls Tryz.prog 56 #[.pointer (some ⟨B, 0, none⟩), .pointer (some ⟨B + 3, 0, none⟩)] w1 fun e w' => e = .returned (.bool (startB (runes s))) ∧ Below B w1 w' := by
    intro B cap w1 hr
    have hB : B ≤ w1.heap.size := by have := hr.size; omega
    by_cases h3 : runOf 45 (runes s) = 3
    · by_cases hw : StartWay (runes s)
      · refine (docStart_yes B cap _ w1 hr hl h3 hw).mono ?_
        rintro e w' ⟨rfl, hb⟩
        refine ⟨ret_bool ?_, hb⟩
        unfold startB
        rw [h3]
        unfold StartWay at hw
        generalize (runes s).getD 3 0 = x at hw ⊢
        symm
        simp
        omega
      · unfold StartWay at hw
        have hl4 : 3 < (runes s).length := by omega
        refine (docStart_other B cap _ w1 hr hl h3 hl4 (by omega)).mono ?_
        rintro e w' ⟨rfl, hb⟩
        refine ⟨ret_bool ?_, hb.mono hB⟩
        unfold startB
        rw [h3]
        generalize (runes s).getD 3 0 = x at hw ⊢
        symm
        simp
        omega
    · refine (docStart_no B cap _ w1 hr hl h3).mono ?_
      rintro e w' ⟨rfl, hb⟩
      refine ⟨ret_bool ?_, hb.mono hB⟩
      unfold startB
      rw [show (runOf 45 (runes s) == 3) = false by simpa using h3]
      rfl
  have KEY := Lib.hid key
  clear key
  obtain ⟨b, hb⟩ : ∃ b, startB (runes s) = b := ⟨_, rfl⟩
  rw [hb] at KEY ⊢
  clear hb hl
  go_enter Tryz.func14, Tryz.ntmps14
  go_wp2_with (first | (go_at_call 54; refine cz.mono ?_; rintro e w1 ⟨cap, rfl, hb1, hr1, hc1⟩) | (go_at_call 56; refine (KEY.out _ _ _ hr1).mono ?_; rintro e w2 ⟨rfl, hb2⟩) | go_in)
  go_ret
  exact ⟨rfl, hb1.trans hb2⟩
end Go.Proofs.YtpjfmfaijcbopaaGreatDoor
