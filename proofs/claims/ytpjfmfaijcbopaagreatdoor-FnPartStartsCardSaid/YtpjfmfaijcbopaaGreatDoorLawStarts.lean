/- Lemmas and contracts of functions of the program, for the statements of this seat: LawStarts. -/
import Derived.Test.YtpjfmfaijcbopaaGreatDoorDocD
import Derived.Test.YtpjfmfaijcbopaaGreatDoorLawEnds
namespace Go.Proofs.YtpjfmfaijcbopaaGreatDoor
open Go.RowKit Go.Proofs

/-- Behind an ASCII beginning the runes go on at that place. -/
theorem decs_skip (s : ByteArray) : ∀ (k f i : Nat), s.size ≤ i + f → i + k ≤ s.size → (∀ j, j < k → by' s (i + j) < 128) → ∃ f', s.size ≤ i + k + f' ∧ f' ≤ f ∧ (decs s f i).drop k = decs s f' (i + k) ∧ k ≤ (decs s f i).length
  | 0, f, i, hf, _, _ => ⟨f, by omega, by omega, by simp, by omega⟩
  | k + 1, 0, i, hf, hk, _ => by omega
  | k + 1, f + 1, i, hf, hk, hb => by
    have h0 := hb 0 (by omega)
    rw [Nat.add_zero] at h0
    obtain ⟨f', h1, h2, h3, h4⟩ := decs_skip s k f (i + 1) (by omega) (by omega) (fun j hj => by have := hb (j + 1) (by omega); rwa [show i + (j + 1) = i + 1 + j by omega] at this)
    refine ⟨f', by omega, by omega, ?_, ?_⟩
    · rw [decs, if_pos (by omega), decode_lo s i (by omega) h0]
      rw [List.drop_succ_cons, h3]
      congr 1
      omega
    · rw [decs, if_pos (by omega), decode_lo s i (by omega) h0]
      simpa using h4

/-- The fourth rune of a text that begins with three ASCII bytes. -/
theorem fourth (s : ByteArray) (h3 : 3 ≤ s.size) (hb : ∀ j, j < 3 → by' s j < 128) :
    ((runes s).length ≤ 3 ↔ s.size = 3) ∧ (3 < s.size → ∀ c : Nat, c < 128 → ((runes s).getD 3 0 = c ↔ by' s 3 = c)) := by
  obtain ⟨f', h1, _, hd, hl⟩ := decs_skip s 3 s.size 0 (by omega) (by omega) (fun j hj => by simpa using hb j hj)
  have hd' : (runes s).drop 3 = decs s f' 3 := by simpa [runes] using hd
  have hlen : (runes s).length = 3 + (decs s f' 3).length := by
    have := congrArg List.length hd'
    simp at this
    have hl' : 3 ≤ (runes s).length := hl
    omega
  have hget : (runes s).getD 3 0 = (decs s f' 3).getD 0 0 := by
    rw [← hd']; simp [List.getD, List.getElem?_drop]
  by_cases e : s.size = 3
  · refine ⟨⟨fun _ => e, fun _ => ?_⟩, fun h => by omega⟩
    have : decs s f' 3 = [] := by cases f' <;> simp [decs, e]
    rw [hlen, this]; simp
  · obtain ⟨f'', rfl⟩ : ∃ f'', f' = f'' + 1 := ⟨f' - 1, by omega⟩
    have hlt : 3 < s.size := by omega
    have hc : decs s (f'' + 1) 3 = ((Utf8.decode s 3).1 : Int) :: decs s f'' (3 + (Utf8.decode s 3).2) := by rw [decs, if_pos hlt]
    rw [hc] at hlen hget
    refine ⟨⟨fun h => by simp at hlen; omega, fun h => absurd h e⟩, fun _ c hcc => ?_⟩
    rw [hget]
    simp only [List.getD_cons_zero]
    by_cases hb3 : by' s 3 < 128
    · rw [decode_lo s 3 hlt hb3]; simp only []; omega
    · have := decode_hi s 3 hlt (by omega)
      omega

theorem allIn_no (c : Int) (hc : content c = false) (h10 : c ≠ 10) (l : List Int) (h : allIn true l = true) : c ∉ l := by
  intro hm
  unfold allIn at h
  have := List.all_eq_true.1 h c hm
  simp [hc, h10] at this

/-- The plain law of FnPartStarts. -/
theorem startsPlain (s : ByteArray) (hr : rowsB s = true) : startB (runes s) = (markedB s && (by' s 0 == 45)) := by
  obtain ⟨k, hk, h1, h2⟩ := runOf_bytes s 45 (by omega)
  have hk' : runOf 45 (runes s) = k := hk
  have h13 : (13 : Int) ∉ runes s := by
    unfold rowsB at hr
    rw [Bool.and_eq_true] at hr
    exact allIn_no 13 (by decide) (by decide) _ hr.2
  rw [Bool.eq_iff_iff]
  unfold startB
  rw [hk']
  constructor
  · intro h
    simp only [Bool.and_eq_true, beq_iff_eq] at h
    obtain ⟨rfl, hw⟩ := h
    have a0 := h1 0 (by omega)
    have a1 := h1 1 (by omega)
    have a2 := h1 2 (by omega)
    obtain ⟨f1, f2⟩ := fourth s (by omega) (fun j hj => by rw [(h1 j hj).2]; omega)
    unfold markedB
    have hz : s.size = 3 ∨ (3 < s.size) := by omega
    rcases hz with hz | hz
    · simp [a0.2, a1.2, a2.2, hz]
    · have hl : ¬ (runes s).length ≤ 3 := fun h => by have := f1.1 h; omega
      have g32 := f2 hz 32 (by omega)
      have g9 := f2 hz 9 (by omega)
      have g10 := f2 hz 10 (by omega)
      have hlt : 3 < (runes s).length := by omega
      have hmem : (runes s).getD 3 0 ∈ runes s := by
        rw [List.getD, List.getElem?_eq_getElem hlt]; exact List.getElem_mem hlt
      have n13 : (runes s).getD 3 0 ≠ 13 := fun e => h13 (e ▸ hmem)
      simp only [decide_eq_false hl, Bool.false_or, Bool.or_eq_true, beq_iff_eq] at hw
      have hb3 : by' s 3 = 32 ∨ by' s 3 = 9 ∨ by' s 3 = 10 := by
        rcases hw with e | e | e | e
        · exact .inl (g32.1 e)
        · exact .inr (.inl (g9.1 e))
        · exact .inr (.inr (g10.1 e))
        · exact absurd e n13
      have h3' : 3 ≤ s.size := by omega
      rcases hb3 with e | e | e <;> simp [a0.2, a1.2, a2.2, e, h3']
  · intro h
    simp only [Bool.and_eq_true, beq_iff_eq] at h
    obtain ⟨hm, h0⟩ := h
    unfold markedB at hm
    simp [h0] at hm
    obtain ⟨h3, e1, e2, hw⟩ := hm
    have k3 : k = 3 := by
      have := runOf_runes s 45 (by omega) 3 (fun j hj => by
        refine ⟨by omega, ?_⟩
        rcases j with _ | _ | _ | j
        · exact h0
        · exact e1
        · exact e2
        · omega) (fun hlt => by omega)
      have this' : runOf 45 (runes s) = 3 := this
      omega
    subst k3
    obtain ⟨f1, f2⟩ := fourth s h3 (fun j hj => by rw [(h1 j hj).2]; omega)
    rcases hw with hw | hw
    · have := f1.2 hw
      simp [this]
    · by_cases hz : 3 < s.size
      · have g32 := f2 hz 32 (by omega)
        have g9 := f2 hz 9 (by omega)
        have g10 := f2 hz 10 (by omega)
        simp only [Bool.and_eq_true, beq_self_eq_true, Bool.or_eq_true, decide_eq_true_eq, beq_iff_eq, true_and]
        rcases hw with e | e | e
        · exact .inr (.inl (g32.2 e))
        · exact .inr (.inr (.inl (g9.2 e)))
        · exact .inr (.inr (.inr (.inl (g10.2 e))))
      · have := f1.2 (by omega)
        simp [this]

set_option maxHeartbeats 4000000 in
theorem lawFnPartStarts (s : ByteArray) (w : World) (hs : s.size ≤ maxLen) (hT : Tabs w) : Calls Tryz.prog 4 #[.string s] w fun e w' => e = .returned (.bool true) ∧ Below w.heap.size w w' := by
  unfold maxLen at hs
  by_cases hbig : s.size ≤ 2147483647
  · have z : ¬ ((2147483647 : Int) < (s.size : Int)) := by omega
    have cR := rows s w (by unfold maxLen; omega) hT
    cases hR : rowsB s with
    | false =>
      rw [hR] at cR
      clear hT hs hR
      go_enter Tryz.func4, Tryz.ntmps4
      go_wp2_with (go_at_call 12; refine cR.mono ?_; rintro e w1 ⟨rfl, hb1⟩)
      go_ret
      exact ⟨rfl, hb1⟩
    | true =>
      have cS : ∀ w, Calls Tryz.prog 14 #[.string s] w fun e w' => e = .returned (.bool (startB (runes s))) ∧ Below w.heap.size w w' := fun w => starts s w (by omega)
      rw [startsPlain s hR] at cS
      have cM : ∀ w, Calls Tryz.prog 11 #[.string s] w fun e w' => e = .returned (.bool (markedB s)) ∧ Dr w w' := fun w => marked s w (by omega)
      rw [hR] at cR
      cases hM : markedB s with
      | false =>
        rw [hM] at cS cM
        rw [Bool.false_and] at cS
        have CS := Lib.hid cS
        have CM := Lib.hid cM
        clear hT hs hR cS cM hM
        go_enter Tryz.func4, Tryz.ntmps4
        go_wp2_with (first | (go_at_call 12; refine cR.mono ?_; rintro e w1 ⟨rfl, hb1⟩) | (go_at_call 14; refine (CS.out _).mono ?_; rintro e w2 ⟨rfl, hb2⟩) | (go_at_call 11; refine (CM.out _).mono ?_; rintro e w3 ⟨rfl, hd3⟩))
        go_ret
        have k1 := hb1.size
        have k2 := hb2.size
        exact ⟨rfl, (hb1.trans (hb2.mono k1)).trans (hd3.below _)⟩
      | true =>
        have h3 : 3 ≤ s.size := by unfold markedB at hM; simp at hM; omega
        have i0 : (0 : Int) < (s.size : Int) := by omega
        have e0 := by'_get s 0 (Nat.lt_of_lt_of_le (by decide) h3)
        rw [hM] at cS cM
        rw [Bool.true_and] at cS
        obtain ⟨b0, hb0⟩ : ∃ b, by' s 0 = b := ⟨_, rfl⟩
        rw [hb0] at cS e0
        cases h45 : (b0 == 45) with
        | true =>
          rw [h45] at cS
          have f45 : ((b0 : Int) == 45) = true := by simp at h45 ⊢; omega
          have CS := Lib.hid cS
          have CM := Lib.hid cM
          clear hT hs hR cS cM hM h45 hb0
          go_enter Tryz.func4, Tryz.ntmps4
          go_wp2_with (first | (go_at_call 12; refine cR.mono ?_; rintro e w1 ⟨rfl, hb1⟩) | (go_at_call 14; refine (CS.out _).mono ?_; rintro e w2 ⟨rfl, hb2⟩) | (go_at_call 11; refine (CM.out _).mono ?_; rintro e w3 ⟨rfl, hd3⟩))
          go_ret
          have k1 := hb1.size
          have k2 := hb2.size
          exact ⟨rfl, (hb1.trans (hb2.mono k1)).trans (hd3.below _)⟩
        | false =>
          rw [h45] at cS
          have f45 : ((b0 : Int) == 45) = false := by simp at h45 ⊢; omega
          have CS := Lib.hid cS
          have CM := Lib.hid cM
          clear hT hs hR cS cM hM h45 hb0
          go_enter Tryz.func4, Tryz.ntmps4
          go_wp2_with (first | (go_at_call 12; refine cR.mono ?_; rintro e w1 ⟨rfl, hb1⟩) | (go_at_call 14; refine (CS.out _).mono ?_; rintro e w2 ⟨rfl, hb2⟩) | (go_at_call 11; refine (CM.out _).mono ?_; rintro e w3 ⟨rfl, hd3⟩))
          go_ret
          have k1 := hb1.size
          have k2 := hb2.size
          exact ⟨rfl, (hb1.trans (hb2.mono k1)).trans (hd3.below _)⟩
  · have z : (2147483647 : Int) < (s.size : Int) := by omega
    go_enter Tryz.func4, Tryz.ntmps4
    go_wp2
    go_ret
    exact ⟨rfl, Below.refl _ _⟩
end Go.Proofs.YtpjfmfaijcbopaaGreatDoor
