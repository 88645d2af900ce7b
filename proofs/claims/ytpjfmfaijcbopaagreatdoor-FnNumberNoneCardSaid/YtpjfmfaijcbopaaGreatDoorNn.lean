/- Texts with a character that stands in no number: spec.NoNumber, and what is kept of such a text. -/
import Derived.Test.YtpjfmfaijcbopaaGreatDoorEsc
import Derived.Lib.OthersKept
import Derived.Lib.TrimAscii
import Derived.Lib.TrimUEq
namespace Go.Proofs.YtpjfmfaijcbopaaGreatDoor
open Go.RowKit Go.Proofs

/-- May a byte stand in a number? -/
def okb (b : Nat) : Bool := decide (0 ≤ hexv b) || b == 43 || b == 45 || b == 46 || b == 111 || b == 79 || b == 120 || b == 88 || b == 95
/-- Does a list of bytes hold one that stands in no number? -/
def badL (l : List UInt8) : Bool := l.any fun b => !okb b.toNat
/-- Has a list of bytes a p and an x? -/
def pxL (l : List UInt8) : Bool := (l.any fun b => b.toNat == 112 || b.toNat == 80) && (l.any fun b => b.toNat == 120 || b.toNat == 88)
/-- What is wanted of a text: it has a byte that stands in no number, and not a p and an x. -/
def Odd (l : List UInt8) : Prop := badL l = true ∧ pxL l = false
theorem okb_hi (b : Nat) (h : 128 ≤ b) : okb b = false := by
  unfold okb hexv
  simp
  omega
theorem badL_append (a b : List UInt8) : badL (a ++ b) = (badL a || badL b) := by unfold badL; rw [List.any_append]
/-- A part of a text, all else of which may stand in numbers, is odd if the text is. -/
theorem Odd.sub {l l' : List UInt8} (h : Odd l) (hs : ∀ b ∈ l', b ∈ l) (hb : badL l = true → badL l' = true) : Odd l' := by
  refine ⟨hb h.1, ?_⟩
  have h2 := h.2
  unfold pxL at *
  rw [Bool.and_eq_false_iff] at *
  rcases h2 with h2 | h2
  · left
    rw [List.any_eq_false] at *
    exact fun b hb => h2 b (hs b hb)
  · right
    rw [List.any_eq_false] at *
    exact fun b hb => h2 b (hs b hb)
theorem Odd.ne {l : List UInt8} (h : Odd l) : l ≠ [] := by
  rintro rfl
  have := h.1
  cases this

/-- Is a rune one that stands in no number? -/
def badR (c : Int) : Bool := decide (hexv c < 0) && (c != 43) && (c != 45) && (c != 46) && (c != 111) && (c != 79) && (c != 120) && (c != 88) && (c != 95)
theorem badR_byte (b : Nat) : badR b = !okb b := by
  unfold badR okb
  rw [Bool.eq_iff_iff]
  simp
  omega
theorem badR_hi (c : Int) (h : 128 ≤ c) : badR c = true := by
  unfold badR hexv
  simp
  omega

theorem badR_parts {c : Int} (h : badR c = false) : 0 ≤ hexv c ∨ c = 43 ∨ c = 45 ∨ c = 46 ∨ c = 111 ∨ c = 79 ∨ c = 120 ∨ c = 88 ∨ c = 95 := by
  unfold badR at h
  by_cases h0 : 0 ≤ hexv c
  · exact .inl h0
  · right
    have hd : decide (hexv c < 0) = true := by simp; omega
    simp [hd] at h
    omega
theorem badL_take (s : ByteArray) (pos : Nat) (hp : pos < s.size) : badL (s.data.toList.take (pos + 1)) = (badL (s.data.toList.take pos) || !okb (by' s pos)) := by
  have hl : pos < s.data.toList.length := by simpa using hp
  rw [List.take_succ_eq_append_getElem hl, badL_append]
  have : (s.data.toList[pos]).toNat = by' s pos := by unfold by'; rw [List.getD, List.getElem?_eq_getElem hl]; rfl
  rw [← this]
  unfold badL
  simp
theorem badL_at (s : ByteArray) (pos : Nat) (hp : pos < s.size) (h : okb (by' s pos) = false) : badL s.data.toList = true := by
  have hl : pos < s.data.toList.length := by simpa using hp
  unfold badL
  rw [List.any_eq_true]
  refine ⟨s.data.toList[pos], List.getElem_mem hl, ?_⟩
  have : (s.data.toList[pos]).toNat = by' s pos := by unfold by'; rw [List.getD, List.getElem?_eq_getElem hl]; rfl
  rw [this, h]; rfl

set_option maxRecDepth 100000 in
set_option maxHeartbeats 4000000 in
theorem noNumber (s : ByteArray) (w : World) :
    Calls Tryz.prog 21 #[.string s] w fun e w' => e = .returned (.bool (badL s.data.toList)) ∧ Below w.heap.size w w' := by
  have hk0 : (w.iter s 0).heap[w.heap.size]? = some (.stringIter s 0) := World.iter_heap w s 0
  have hb0 : Below w.heap.size w (w.iter s 0) := (Below.refl _ w).alloc (Nat.le_refl _) _
  obtain ⟨ans, hans⟩ : ∃ b, badL s.data.toList = b := ⟨_, rfl⟩
  rw [hans]
  have HA := Lib.hid hans
  have HK0 := Lib.hid hk0
  have HB0 := Lib.hid hb0
  clear hans hk0 hb0
  go_enter Tryz.func21, Tryz.ntmps21
  go_wp2_with fail
  go_loopw [4] (fun _ wr => ∃ pos : Nat, pos ≤ s.size ∧ Hid (wr.heap[w.heap.size]? = some (.stringIter s pos)) ∧ Hid (badL (s.data.toList.take pos) = false) ∧ Hid (Below w.heap.size w wr)) (fun _ wr => s.size - wr.iterPos w.heap.size)
  case atStart => exact ⟨0, Nat.zero_le _, HK0, Lib.hid rfl, HB0⟩
  case round =>
    obtain ⟨pos, hps, HK, HL, HB⟩ := hrel
    by_cases hp : pos < s.size
    · have hnext : ∀ ty, (Instr.next (.pointer (some ⟨w.heap.size, 0, none⟩)) true ty).run Tryz.prog wr = _ := fun ty => Lib.run_next_any_at wr w.heap.size s pos ty HK.out hp
      have hmu : wr.iterPos w.heap.size = pos := by simp [World.iterPos, HK.out]
      by_cases hok : okb (by' s pos) = true
      · have hlo : by' s pos < 128 := by
          rcases Nat.lt_or_ge (by' s pos) 128 with h | h
          · exact h
          · rw [okb_hi _ h] at hok; cases hok
        have hdec : Utf8.decode s pos = (by' s pos, 1) := by
          rw [← Lib.decodeL_drop, List.drop_eq_getElem_cons (by simpa using hp), Lib.decodeL_ascii]
          · unfold by'; rw [List.getD, List.getElem?_eq_getElem (by simpa using hp)]; rfl
          · have : (s.data.toList[pos]'(by simpa using hp)).toNat = by' s pos := by unfold by'; rw [List.getD, List.getElem?_eq_getElem (by simpa using hp)]; rfl
            omega
        rw [hdec] at hnext
        have hk1 := Lib.iterAt_heap wr w.heap.size s pos (pos + 1) HK.out
        have hnx1 : Below w.heap.size w (wr.iterAt w.heap.size s (pos + 1)) := Lib.below_iterAt HB.out (by omega) s (pos + 1)
        have hl1 : badL (s.data.toList.take (pos + 1)) = false := by rw [badL_take s pos hp, HL.out, hok]; rfl
        have hmu2 : ∀ W1 : World, W1.heap[w.heap.size]? = some (.stringIter s (pos + 1)) → W1.iterPos w.heap.size = pos + 1 := fun W1 h => by simp [World.iterPos, h]
        obtain ⟨W1, hW1⟩ : ∃ W1, wr.iterAt w.heap.size s (pos + 1) = W1 := ⟨_, rfl⟩
        simp only [hW1] at hnext hk1 hnx1
        have HN := Lib.hid (And.intro hk1 (And.intro hl1 hnx1))
        have HM := Lib.hid (And.intro hmu (hmu2 W1 hk1))
        have hbr := badR_byte (by' s pos)
        rw [hok] at hbr
        obtain ⟨b, hb⟩ : ∃ b, by' s pos = b := ⟨_, rfl⟩
        rw [hb] at hnext hbr hlo
        have CH : Hid (∀ w, Calls Tryz.prog 42 #[.int .i32 b] w fun e w' => e = .returned (.int .i32 (hexv b)) ∧ w = w') := Lib.hid (fun w => scHex b w (by omega))
        have hh := badR_parts hbr
        obtain ⟨h, hhv⟩ : ∃ h, hexv b = h := ⟨_, rfl⟩
        rw [hhv] at CH hh
        have HHV := Lib.hid hhv
        clear hk1 hnx1 hl1 hmu hmu2 hW1 hdec hok hb hbr HK HL HB hhv
        rcases hh with h0 | hb | hb | hb | hb | hb | hb | hb | hb
        · have q : decide (h < 0) = false := by simp; omega
          go_wp2_with (go_at_call 42; refine (CH.out _).mono ?_; rintro e w' ⟨rfl, rfl⟩)
          go_roundw
          case rel => exact ⟨pos + 1, by omega, Lib.hid HN.out.1, Lib.hid HN.out.2.1, Lib.hid HN.out.2.2⟩
          case measure => rw [HM.out.1, HM.out.2]; omega
        · obtain rfl : b = 43 := by omega
          obtain rfl : h = -1 := by rw [← HHV.out]; decide
          clear hb HHV
          go_wp2_with (go_at_call 42; refine (CH.out _).mono ?_; rintro e w' ⟨rfl, rfl⟩)
          go_roundw
          case rel => exact ⟨pos + 1, by omega, Lib.hid HN.out.1, Lib.hid HN.out.2.1, Lib.hid HN.out.2.2⟩
          case measure => rw [HM.out.1, HM.out.2]; omega
        · obtain rfl : b = 45 := by omega
          obtain rfl : h = -1 := by rw [← HHV.out]; decide
          clear hb HHV
          go_wp2_with (go_at_call 42; refine (CH.out _).mono ?_; rintro e w' ⟨rfl, rfl⟩)
          go_roundw
          case rel => exact ⟨pos + 1, by omega, Lib.hid HN.out.1, Lib.hid HN.out.2.1, Lib.hid HN.out.2.2⟩
          case measure => rw [HM.out.1, HM.out.2]; omega
        · obtain rfl : b = 46 := by omega
          obtain rfl : h = -1 := by rw [← HHV.out]; decide
          clear hb HHV
          go_wp2_with (go_at_call 42; refine (CH.out _).mono ?_; rintro e w' ⟨rfl, rfl⟩)
          go_roundw
          case rel => exact ⟨pos + 1, by omega, Lib.hid HN.out.1, Lib.hid HN.out.2.1, Lib.hid HN.out.2.2⟩
          case measure => rw [HM.out.1, HM.out.2]; omega
        · obtain rfl : b = 111 := by omega
          obtain rfl : h = -1 := by rw [← HHV.out]; decide
          clear hb HHV
          go_wp2_with (go_at_call 42; refine (CH.out _).mono ?_; rintro e w' ⟨rfl, rfl⟩)
          go_roundw
          case rel => exact ⟨pos + 1, by omega, Lib.hid HN.out.1, Lib.hid HN.out.2.1, Lib.hid HN.out.2.2⟩
          case measure => rw [HM.out.1, HM.out.2]; omega
        · obtain rfl : b = 79 := by omega
          obtain rfl : h = -1 := by rw [← HHV.out]; decide
          clear hb HHV
          go_wp2_with (go_at_call 42; refine (CH.out _).mono ?_; rintro e w' ⟨rfl, rfl⟩)
          go_roundw
          case rel => exact ⟨pos + 1, by omega, Lib.hid HN.out.1, Lib.hid HN.out.2.1, Lib.hid HN.out.2.2⟩
          case measure => rw [HM.out.1, HM.out.2]; omega
        · obtain rfl : b = 120 := by omega
          obtain rfl : h = -1 := by rw [← HHV.out]; decide
          clear hb HHV
          go_wp2_with (go_at_call 42; refine (CH.out _).mono ?_; rintro e w' ⟨rfl, rfl⟩)
          go_roundw
          case rel => exact ⟨pos + 1, by omega, Lib.hid HN.out.1, Lib.hid HN.out.2.1, Lib.hid HN.out.2.2⟩
          case measure => rw [HM.out.1, HM.out.2]; omega
        · obtain rfl : b = 88 := by omega
          obtain rfl : h = -1 := by rw [← HHV.out]; decide
          clear hb HHV
          go_wp2_with (go_at_call 42; refine (CH.out _).mono ?_; rintro e w' ⟨rfl, rfl⟩)
          go_roundw
          case rel => exact ⟨pos + 1, by omega, Lib.hid HN.out.1, Lib.hid HN.out.2.1, Lib.hid HN.out.2.2⟩
          case measure => rw [HM.out.1, HM.out.2]; omega
        · obtain rfl : b = 95 := by omega
          obtain rfl : h = -1 := by rw [← HHV.out]; decide
          clear hb HHV
          go_wp2_with (go_at_call 42; refine (CH.out _).mono ?_; rintro e w' ⟨rfl, rfl⟩)
          go_roundw
          case rel => exact ⟨pos + 1, by omega, Lib.hid HN.out.1, Lib.hid HN.out.2.1, Lib.hid HN.out.2.2⟩
          case measure => rw [HM.out.1, HM.out.2]; omega
      · have hok' : okb (by' s pos) = false := by cases h : okb (by' s pos) with | true => exact absurd h hok | false => rfl
        have ha : ans = true := by rw [← HA.out]; exact badL_at s pos hp hok'
        subst ha
        have hbad : badR ((Utf8.decode s pos).1 : Nat) = true := by
          by_cases hlo : by' s pos < 128
          · have hdec : Utf8.decode s pos = (by' s pos, 1) := by
              rw [← Lib.decodeL_drop, List.drop_eq_getElem_cons (by simpa using hp), Lib.decodeL_ascii]
              · unfold by'; rw [List.getD, List.getElem?_eq_getElem (by simpa using hp)]; rfl
              · have : (s.data.toList[pos]'(by simpa using hp)).toNat = by' s pos := by unfold by'; rw [List.getD, List.getElem?_eq_getElem (by simpa using hp)]; rfl
                omega
            rw [hdec, badR_byte, hok']; rfl
          · have h2 : 128 ≤ (Utf8.decode s pos).1 := by
              rw [← Lib.decodeL_drop, List.drop_eq_getElem_cons (by simpa using hp)]
              apply decodeL_hi
              have : (s.data.toList[pos]'(by simpa using hp)).toNat = by' s pos := by unfold by'; rw [List.getD, List.getElem?_eq_getElem (by simpa using hp)]; rfl
              omega
            exact badR_hi _ (by omega)
        have hrange : (Utf8.decode s pos).1 ≤ 1114111 := by
          have := Lib.decodeL_rune (s.data.toList.drop pos)
          rwa [Lib.decodeL_drop] at this
        have hnx1 : Below w.heap.size w (wr.iterAt w.heap.size s (pos + (Utf8.decode s pos).2)) := Lib.below_iterAt HB.out (by omega) s _
        obtain ⟨W1, hW1⟩ : ∃ W1, wr.iterAt w.heap.size s (pos + (Utf8.decode s pos).2) = W1 := ⟨_, rfl⟩
        simp only [hW1] at hnext hnx1
        obtain ⟨b, hb⟩ : ∃ b, (Utf8.decode s pos).1 = b := ⟨_, rfl⟩
        rw [hb] at hnext hbad hrange
        have CH : Hid (∀ w, Calls Tryz.prog 42 #[.int .i32 b] w fun e w' => e = .returned (.int .i32 (hexv b)) ∧ w = w') := Lib.hid (fun w => scHex b w (by omega))
        unfold badR at hbad
        obtain ⟨h, hhv⟩ : ∃ h, hexv b = h := ⟨_, rfl⟩
        rw [hhv] at CH hbad
        simp only [Bool.and_eq_true] at hbad
        obtain ⟨⟨⟨⟨⟨⟨⟨⟨q0, q1⟩, q2⟩, q3⟩, q4⟩, q5⟩, q6⟩, q7⟩, q8⟩ := hbad
        have HNX := Lib.hid hnx1
        clear hnx1 hW1 hb hhv HA hok hok' HK HL HB hmu
        go_wp2_with (go_at_call 42; refine (CH.out _).mono ?_; rintro e w' ⟨rfl, rfl⟩)
        go_ret
        exact ⟨rfl, HNX.out⟩
    · have hnext : ∀ ty, (Instr.next (.pointer (some ⟨w.heap.size, 0, none⟩)) true ty).run Tryz.prog wr = _ := fun ty => Lib.run_next_end_at wr w.heap.size s pos ty HK.out hp
      have hall : s.data.toList.take pos = s.data.toList := List.take_of_length_le (by simp; omega)
      have hl := HL.out
      rw [hall] at hl
      have ha : ans = false := by rw [← HA.out]; exact hl
      subst ha
      clear hl HA hall
      go_wp2_with fail
      go_ret
      exact ⟨rfl, HB.out⟩
end Go.Proofs.YtpjfmfaijcbopaaGreatDoor
