/- Lemmas and contracts of functions of the program, for the statements of this seat: LawEnds. -/
import Derived.Test.YtpjfmfaijcbopaaGreatDoorDocC
import Derived.Test.YtpjfmfaijcbopaaGreatDoorSpecB
namespace Go.Proofs.YtpjfmfaijcbopaaGreatDoor
open Go.RowKit Go.Proofs

theorem get_by' (s : ByteArray) (i : Nat) (h : i < s.size) : (s.get! i).toNat = by' s i := by
  unfold by'
  cases s with
  | mk d =>
    have h' : i < d.size := h
    show (d[i]!).toNat = _
    rw [getElem!_pos d i h']
    simp [List.getD, h']
/-- The rune at a place begins with its byte: it is that byte if that is ASCII, and above 127 else. -/
theorem decode_lo (s : ByteArray) (i : Nat) (h : i < s.size) (hb : by' s i < 128) : Utf8.decode s i = (by' s i, 1) := by
  have := get_by' s i h
  unfold Utf8.decode
  simp only [Nat.add_zero, this, hb, if_true]
theorem decode_hi (s : ByteArray) (i : Nat) (h : i < s.size) (hb : 128 ≤ by' s i) : 128 ≤ (Utf8.decode s i).1 := by
  have := get_by' s i h
  unfold Utf8.decode
  simp only [Nat.add_zero, this]
  rw [if_neg (by omega)]
  unfold Utf8.runeError
  split
  · split <;> (simp only []; omega)
  · split
    · split
      · rename_i _ h2; simp only []; simp at h2; omega
      · simp only []; omega
    · split
      · split
        · rename_i _ h2; simp only []; simp at h2; omega
        · simp only []; omega
      · simp only []; omega

/-- How many of a text's bytes from a place on are c. -/
theorem runOf_decs (s : ByteArray) (c : Nat) (hc : c < 128) : ∀ (f i k : Nat), s.size ≤ i + f → (∀ j, j < k → i + j < s.size ∧ by' s (i + j) = c) → (i + k < s.size → by' s (i + k) ≠ c) → runOf c (decs s f i) = k
  | 0, i, k, hf, hk, _ => by
    have : k = 0 := by
      rcases Nat.eq_zero_or_pos k with h | h
      · exact h
      · have := (hk 0 h).1; omega
    subst this; rfl
  | f + 1, i, 0, hf, _, hn => by
    unfold decs
    split
    · rename_i hi
      have hne : by' s i ≠ c := by simpa using hn (by simpa using hi)
      unfold runOf
      rw [if_neg]
      intro e
      have e' : (Utf8.decode s i).1 = c := by omega
      by_cases hb : by' s i < 128
      · rw [decode_lo s i hi hb] at e'; exact hne e'
      · have := decode_hi s i hi (by omega); omega
    · rfl
  | f + 1, i, k + 1, hf, hk, hn => by
    have h0 := hk 0 (by omega)
    rw [Nat.add_zero] at h0
    unfold decs
    rw [if_pos h0.1, decode_lo s i h0.1 (by rw [h0.2]; exact hc)]
    unfold runOf
    rw [if_pos (by rw [h0.2])]
    rw [runOf_decs s c hc f (i + 1) k (by omega) (fun j hj => by have := hk (j + 1) (by omega); rw [show i + (j + 1) = i + 1 + j by omega] at this; exact this) (fun h => by
      have := hn (by omega); rw [show i + (k + 1) = i + 1 + k by omega] at this; exact this)]
theorem runOf_runes (s : ByteArray) (c : Nat) (hc : c < 128) (k : Nat) (hk : ∀ j, j < k → j < s.size ∧ by' s j = c) (hn : k < s.size → by' s k ≠ c) : runOf c (runes s) = k :=
  runOf_decs s c hc s.size 0 k (by omega) (fun j hj => by simpa using hk j hj) (fun h => by simpa using hn (by simpa using h))

/-- Where a text begins with three points. -/
theorem take3 (s : ByteArray) (c : UInt8) (h3 : 3 ≤ s.size) : ((s.data.toList.take 3) == [c, c, c]) = (by' s 0 == c.toNat && (by' s 1 == c.toNat && by' s 2 == c.toNat)) := by
  obtain ⟨⟨l⟩⟩ := s
  have hl : 3 ≤ l.length := h3
  match l, hl with
  | a :: b :: d :: r, _ =>
    simp only [by'_mk]
    show ([a, b, d] == [c, c, c]) = _
    have e : ∀ x y : UInt8, (x == y) = (x.toNat == y.toNat) := fun x y => by
      rw [Bool.eq_iff_iff]; simp [UInt8.toNat_inj]
    simp [e, List.getD]

theorem runOf_bytes (s : ByteArray) (c : Nat) (hc : c < 128) : ∃ k, runOf c (runes s) = k ∧ (∀ j, j < k → j < s.size ∧ by' s j = c) ∧ (k < s.size → by' s k ≠ c) := by
  have key : ∀ (n i : Nat), i + n = s.size → (∀ j, j < i → j < s.size ∧ by' s j = c) → ∃ k, (∀ j, j < k → j < s.size ∧ by' s j = c) ∧ (k < s.size → by' s k ≠ c) := by
    intro n
    induction n with
    | zero => exact fun i hi h => ⟨i, h, fun hlt => by omega⟩
    | succ n ih =>
      intro i hi h
      by_cases hx : by' s i = c
      · exact ih (i + 1) (by omega) (fun j hj => by
          by_cases e : j = i
          · subst e; exact ⟨by omega, hx⟩
          · exact h j (by omega))
      · exact ⟨i, h, fun _ => hx⟩
  obtain ⟨k, h1, h2⟩ := key s.size 0 (by omega) (fun j hj => by omega)
  exact ⟨k, runOf_runes s c hc k h1 h2, h1, h2⟩

/-- The plain law of FnPartEnds. -/
theorem endsPlain_no (s : ByteArray) (h : (decide (3 ≤ s.size) && (s.data.toList.take 3 == [46, 46, 46])) = false) : (runOf 46 (runes s) == 3) = false := by
  obtain ⟨k, hk, h1, h2⟩ := runOf_bytes s 46 (by omega)
  have hk' : runOf 46 (runes s) = k := hk
  rw [hk']
  rw [beq_eq_false_iff_ne]
  rintro rfl
  have h3 : 3 ≤ s.size := by have := (h1 2 (by omega)).1; omega
  rw [decide_eq_true h3, Bool.true_and, take3 s 46 h3] at h
  have := h1 0 (by omega); have := h1 1 (by omega); have := h1 2 (by omega)
  simp_all
theorem endsPlain_yes (s : ByteArray) (hm : markedB s = true) (h0 : by' s 0 = 46) : (runOf 46 (runes s) == 3) = true := by
  unfold markedB at hm
  simp [h0] at hm
  obtain ⟨h3, h1, h2, h4⟩ := hm
  have := runOf_runes s 46 (by omega) 3 (fun j hj => by
    refine ⟨by omega, ?_⟩
    rcases j with _ | _ | _ | j
    · exact h0
    · exact h1
    · exact h2
    · omega) (fun hlt => by omega)
  simp [show runOf 46 (runes s) = 3 from this]

set_option maxHeartbeats 4000000 in
theorem lawFnPartEnds (s : ByteArray) (w : World) (hs : s.size ≤ maxLen) (hT : Tabs w) : Calls Tryz.prog 3 #[.string s] w fun e w' => e = .returned (.bool true) ∧ Below w.heap.size w w' := by
  unfold maxLen at hs
  by_cases hbig : s.size ≤ 2147483647
  · have z : ¬ ((2147483647 : Int) < (s.size : Int)) := by omega
    have cE : ∀ w, Calls Tryz.prog 13 #[.string s] w fun e w' => e = .returned (.bool (runOf 46 (runes s) == 3)) ∧ Below w.heap.size w w' := fun w => ends s w (by omega)
    have cB : ∀ w, Calls Tryz.prog 10 #[.string s, .string ⟨#[46, 46, 46]⟩] w fun e w' => e = .returned (.bool (decide (3 ≤ s.size) && (s.data.toList.take 3 == [46, 46, 46]))) ∧ w = w' := fun w => begins s ⟨#[46, 46, 46]⟩ w
    cases hB : (decide (3 ≤ s.size) && (s.data.toList.take 3 == [46, 46, 46])) with
    | false =>
      rw [hB] at cB
      rw [endsPlain_no s hB] at cE
      have CE := Lib.hid cE
      have CB := Lib.hid cB
      clear cE cB hB hT hs
      go_enter Tryz.func3, Tryz.ntmps3
      go_wp2_with (first | (go_at_call 10; refine (CB.out _).mono ?_; rintro e w' ⟨rfl, rfl⟩) | (go_at_call 13; refine (CE.out _).mono ?_; rintro e w' ⟨rfl, hb⟩))
      go_ret
      exact ⟨rfl, hb⟩
    | true =>
      rw [hB] at cB
      have cM : ∀ w, Calls Tryz.prog 11 #[.string s] w fun e w' => e = .returned (.bool (markedB s)) ∧ Dr w w' := fun w => marked s w (by omega)
      have cR : ∀ w, Tabs w → Calls Tryz.prog 12 #[.string s] w fun e w' => e = .returned (.bool (rowsB s)) ∧ Below w.heap.size w w' := fun w h => rows s w (by unfold maxLen; omega) h
      have h0 : by' s 0 = 46 := by
        simp only [Bool.and_eq_true, decide_eq_true_eq] at hB
        have := hB.2
        rw [take3 s 46 hB.1] at this
        simp at this
        exact this.1
      cases hM : markedB s with
      | false =>
        rw [hM] at cM
        have CM := Lib.hid cM
        have CB := Lib.hid cB
        clear cE cB hB hT hs cM cR hM
        go_enter Tryz.func3, Tryz.ntmps3
        go_wp2_with (first | (go_at_call 10; refine (CB.out _).mono ?_; rintro e w' ⟨rfl, rfl⟩) | (go_at_call 11; refine (CM.out _).mono ?_; rintro e w' ⟨rfl, hd⟩))
        go_ret
        exact ⟨rfl, hd.below _⟩
      | true =>
        rw [hM] at cM
        rw [endsPlain_yes s hM h0] at cE
        have CM := Lib.hid cM
        have CB := Lib.hid cB
        have CE := Lib.hid cE
        have HT : Hid (∀ w', Dr w w' → Tabs w') := Lib.hid (fun w' hd => by obtain ⟨n, rfl⟩ := hd; exact hT)
        cases hR : rowsB s with
        | false =>
          rw [hR] at cR
          have CR := Lib.hid cR
          clear cE cB hB hT hs cM cR hM hR h0
          go_enter Tryz.func3, Tryz.ntmps3
          go_wp2_with (first | (go_at_call 10; refine (CB.out _).mono ?_; rintro e w' ⟨rfl, rfl⟩) | (go_at_call 11; refine (CM.out _).mono ?_; rintro e w1 ⟨rfl, hd⟩) | (go_at_call 12; refine (CR.out _ (HT.out _ hd)).mono ?_; rintro e w2 ⟨rfl, hb2⟩))
          go_ret
          exact ⟨rfl, (hd.below _).trans (hb2.mono (by have := (hd.below w.heap.size).size; exact this))⟩
        | true =>
          rw [hR] at cR
          have CR := Lib.hid cR
          clear cE cB hB hT hs cM cR hM hR h0
          go_enter Tryz.func3, Tryz.ntmps3
          go_wp2_with (first | (go_at_call 10; refine (CB.out _).mono ?_; rintro e w' ⟨rfl, rfl⟩) | (go_at_call 11; refine (CM.out _).mono ?_; rintro e w1 ⟨rfl, hd⟩) | (go_at_call 12; refine (CR.out _ (HT.out _ hd)).mono ?_; rintro e w2 ⟨rfl, hb2⟩) | (go_at_call 13; refine (CE.out _).mono ?_; rintro e w3 ⟨rfl, hb3⟩))
          go_ret
          have k1 := (hd.below w.heap.size).size
          have k2 := hb2.size
          exact ⟨rfl, ((hd.below _).trans (hb2.mono k1)).trans (hb3.mono (by omega))⟩
  · have z : (2147483647 : Int) < (s.size : Int) := by omega
    go_enter Tryz.func3, Tryz.ntmps3
    go_wp2
    go_ret
    exact ⟨rfl, Below.refl _ _⟩
end Go.Proofs.YtpjfmfaijcbopaaGreatDoor
