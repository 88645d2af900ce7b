/- Lemmas and contracts of functions of the program, for the statements of this seat: SpecB. -/
import Derived.Test.YtpjfmfaijcbopaaGreatDoorSpec
namespace Go.Proofs.YtpjfmfaijcbopaaGreatDoor
open Go.RowKit Go.Proofs

/-- A byte of a string. -/
def by' (s : ByteArray) (i : Nat) : Nat := (s.data.toList.getD i 0).toNat
theorem by'_get (s : ByteArray) (i : Nat) (h : i < s.size) : ((s[i]'h).toNat : Int) = (by' s i : Int) := by
  unfold by'
  rw [List.getD, List.getElem?_eq_getElem (by simpa using h)]
  rfl
theorem by'_lt (s : ByteArray) (i : Nat) : by' s i < 256 := by unfold by'; exact (s.data.toList.getD i 0).toNat_lt

/-- Has a text a byte of another one? -/
def hasB (s t : ByteArray) : Bool := (List.range s.size).any fun i => (List.range t.size).any fun k => by' s i == by' t k

def Dr (w w' : World) : Prop := ∃ n, w' = w.drewN n
theorem Dr.refl (w : World) : Dr w w := ⟨0, rfl⟩
theorem Dr.drewN {w w' : World} (h : Dr w w') (n : Nat) : Dr w (w'.drewN n) := by obtain ⟨m, rfl⟩ := h; exact ⟨m + n, by simp [World.drewN, Nat.add_assoc]⟩
theorem Dr.below {w w' : World} (h : Dr w w') (B : Nat) : Below B w w' := by obtain ⟨m, rfl⟩ := h; exact below_drewN (Below.refl _ _) _

set_option maxHeartbeats 4000000 in
theorem has (s t : ByteArray) (w : World) (hs : s.size ≤ 9223372036854775806) (ht : t.size ≤ 9223372036854775806) :
    Calls Tryz.prog 24 #[.string s, .string t] w fun e w' => e = .returned (.bool (hasB s t)) ∧ Dr w w' := by
  go_enter Tryz.func24, Tryz.ntmps24
  go_wp2
  go_loopw [5] (fun i wr => ∃ n : Nat, n ≤ s.size ∧ i = .int .i64 n ∧ Hid (∀ j, j < n → ∀ k, k < t.size → by' s j ≠ by' t k) ∧ Dr w wr) (fun i _ => s.size - (intOf i).toNat)
  case atStart => exact ⟨0, Nat.zero_le _, rfl, Lib.hid (fun j hj => by omega), Dr.refl w⟩
  case round =>
    obtain ⟨i, hi, rfl, HA, hd⟩ := hrel
    by_cases hlt : i < s.size
    · go_wp2
      obtain ⟨wo, rfl⟩ : ∃ wo : World, wo = wr := ⟨_, rfl⟩
      go_loopw [6] (fun k wr => ∃ n : Nat, n ≤ t.size ∧ k = .int .i64 n ∧ Hid (∀ j, j < n → by' s i ≠ by' t j) ∧ Dr w wr) (fun k _ => t.size - (intOf k).toNat)
      case atStart => exact ⟨0, Nat.zero_le _, rfl, Lib.hid (fun j hj => by omega), hd⟩
      case round =>
        obtain ⟨k, hk, rfl, HB, hd2⟩ := hrel
        by_cases hlk : k < t.size
        · have e1 := by'_get s i hlt
          have e2 := by'_get t k hlk
          obtain ⟨x, hx⟩ : ∃ x, by' s i = x := ⟨_, rfl⟩
          obtain ⟨y, hy⟩ : ∃ y, by' t k = y := ⟨_, rfl⟩
          rw [hx] at e1
          rw [hy] at e2
          by_cases heq : x = y
          · have hans : hasB s t = true := by
              unfold hasB
              rw [List.any_eq_true]
              exact ⟨i, List.mem_range.2 hlt, List.any_eq_true.2 ⟨k, List.mem_range.2 hlk, by simp [hx, hy, heq]⟩⟩
            have HANS := Lib.hid hans
            have HD := Lib.hid hd2
            have eb : ((x : Int) == (y : Int)) = true := by simp [heq]
            clear heq hx hy hans hd2 hd HA HB
            go_wp2
            go_quiet (fail)
            go_wp2
            go_ret
            exact ⟨ret_bool HANS.out.symm, HD.out.drewN _⟩
          · have HB2 : Hid (∀ j, j < k + 1 → by' s i ≠ by' t j) := Lib.hid (fun j hj => by
              by_cases e : j = k
              · subst e; rw [hx, hy]; exact heq
              · exact HB.out j (by omega))
            have HD := Lib.hid hd2
            have eb : ((x : Int) == (y : Int)) = false := by simp; omega
            clear heq hx hy hd2 hd HB
            go_wp2
            go_quiet (fail)
            go_wp2
            go_roundw
            case rel => exact ⟨k + 1, by omega, by go_num, HB2, HD.out.drewN _⟩
            case measure => simp [intOf]; omega
        · have HA2 : Hid (∀ j, j < i + 1 → ∀ k, k < t.size → by' s j ≠ by' t k) := Lib.hid (fun j hj => by
            by_cases e : j = i
            · subst e; exact fun k' hk' => HB.out k' (by omega)
            · exact HA.out j (by omega))
          have HD := Lib.hid hd2
          clear hd2 hd HA HB
          go_wp2
          go_roundw
          case rel => exact ⟨i + 1, by omega, by go_num, HA2, HD.out⟩
          case measure => simp [intOf]; omega
    · have hans : hasB s t = false := by
        unfold hasB
        rw [List.any_eq_false]
        intro j hj
        rw [Bool.not_eq_true, List.any_eq_false]
        intro k hk
        have := HA.out j (by have := List.mem_range.1 hj; omega) k (List.mem_range.1 hk)
        simpa using this
      have HANS := Lib.hid hans
      have HD := Lib.hid hd
      clear hans hd
      go_wp2
      go_ret
      exact ⟨ret_bool HANS.out.symm, HD.out⟩

set_option maxHeartbeats 4000000 in
theorem begins (s t : ByteArray) (w : World) :
    Calls Tryz.prog 10 #[.string s, .string t] w fun e w' => e = .returned (.bool (decide (t.size ≤ s.size) && (s.data.toList.take t.size == t.data.toList))) ∧ w = w' := by
  by_cases h : t.size ≤ s.size
  · have hz : (t.size : Int) ≤ (s.size : Int) := by omega
    rw [decide_eq_true h, Bool.true_and]
    go_enter Tryz.func10, Tryz.ntmps10
    go_wp2
    go_ret
    refine ⟨ret_bool ?_, rfl⟩
    rw [Lib.toList_data, Lib.toList_data, Lib.extract_data]
    simp
  · have hz : ¬ (t.size : Int) ≤ (s.size : Int) := by omega
    rw [decide_eq_false h, Bool.false_and]
    go_enter Tryz.func10, Tryz.ntmps10
    go_wp2
    go_ret
    exact ⟨rfl, rfl⟩


/-- spec.Marked: --- or ... with white, a line feed or the end behind it. -/
def markedB (s : ByteArray) : Bool :=
  decide (3 ≤ s.size) && ((by' s 0 == 45 || by' s 0 == 46) && (by' s 1 == by' s 0 && (by' s 2 == by' s 0 && (s.size == 3 || (by' s 3 == 32 || (by' s 3 == 9 || by' s 3 == 10))))))

theorem by'_mk (l : List UInt8) (i : Nat) : by' ⟨l.toArray⟩ i = (l.getD i 0).toNat := rfl
theorem hasB_one (s : ByteArray) (h : 4 ≤ s.size) : hasB (s.extract 3 4) ⟨#[32, 9, 10]⟩ = (by' s 3 == 32 || (by' s 3 == 9 || by' s 3 == 10)) := by
  have hz : (s.extract 3 4).size = 1 := by rw [ByteArray.size_extract]; omega
  have hb : by' (s.extract 3 4) 0 = by' s 3 := by
    unfold by'
    rw [Lib.extract_data]
    simp [List.getD, List.getElem?_drop]
  have e0 : by' ⟨#[32, 9, 10]⟩ 0 = 32 := rfl
  have e1 : by' ⟨#[32, 9, 10]⟩ 1 = 9 := rfl
  have e2 : by' ⟨#[32, 9, 10]⟩ 2 = 10 := rfl
  unfold hasB
  rw [hz]
  have z3 : (⟨#[32, 9, 10]⟩ : ByteArray).size = 3 := rfl
  rw [z3]
  simp [List.range_succ, hb, e0, e1, e2]

set_option maxHeartbeats 4000000 in
theorem marked (s : ByteArray) (w : World) (hs : s.size ≤ 9223372036854775806) :
    Calls Tryz.prog 11 #[.string s] w fun e w' => e = .returned (.bool (markedB s)) ∧ Dr w w' := by
  obtain ⟨ans, hans⟩ : ∃ b, markedB s = b := ⟨_, rfl⟩
  rw [hans]
  by_cases h3 : 3 ≤ s.size
  · have e0 := by'_get s 0 (by omega)
    have e1 := by'_get s 1 (by omega)
    have e2 := by'_get s 2 (by omega)
    unfold markedB at hans
    rw [decide_eq_true h3, Bool.true_and] at hans
    obtain ⟨b0, hb0⟩ : ∃ b, by' s 0 = b := ⟨_, rfl⟩
    obtain ⟨b1, hb1⟩ : ∃ b, by' s 1 = b := ⟨_, rfl⟩
    obtain ⟨b2, hb2⟩ : ∃ b, by' s 2 = b := ⟨_, rfl⟩
    rw [hb0] at e0
    rw [hb1] at e1
    rw [hb2] at e2
    rw [hb0, hb1, hb2] at hans
    clear hb0 hb1 hb2
    have z3 : decide ((s.size : Int) < 3) = false := by simp; omega
    have i0 : (0 : Int) < (s.size : Int) := by omega
    have i1 : (1 : Int) < (s.size : Int) := by omega
    have i2 : (2 : Int) < (s.size : Int) := by omega
    by_cases c0 : b0 = 45 ∨ b0 = 46
    · by_cases c1 : b1 = b0
      · by_cases c2 : b2 = b0
        · have f1 : (((b0 : Int) != 45) = true ∧ ((b0 : Int) != 46) = false) ∨ ((b0 : Int) != 45) = false := by simp; omega
          have f2 : ((b1 : Int) != (b0 : Int)) = false := by simp; omega
          have f3 : ((b2 : Int) != (b0 : Int)) = false := by simp; omega
          by_cases z4 : s.size = 3
          · have g3 : ((s.size : Int) == 3) = true := by simp; omega
            have hf : ans = true := by rw [← hans]; simp; omega
            rw [hf]
            clear hans hf c0 c1 c2 z4
            rcases f1 with ⟨f1, f4⟩ | f1
            all_goals
              go_enter Tryz.func11, Tryz.ntmps11
              go_wp2
              go_quiet (fail)
              go_wp2
              go_ret
              exact ⟨rfl, (Dr.refl w).drewN _⟩
          · have g3 : ((s.size : Int) == 3) = false := by simp; omega
            have i3 : (4 : Int) ≤ (s.size : Int) := by omega
            have hc : ∀ w, Calls Tryz.prog 24 #[.string (s.extract 3 4), .string ⟨#[32, 9, 10]⟩] w fun e w' => e = .returned (.bool (hasB (s.extract 3 4) ⟨#[32, 9, 10]⟩)) ∧ Dr w w' :=
              fun w => has _ _ w (by rw [ByteArray.size_extract]; omega) (by show 3 ≤ _; omega)
            rw [hasB_one s (by omega)] at hc
            have hf : ans = (by' s 3 == 32 || (by' s 3 == 9 || by' s 3 == 10)) := by
              rw [← hans, c1, c2, show (s.size == 3) = false by simpa using z4]
              rcases c0 with rfl | rfl <;> simp
            rw [← hf] at hc
            have HC := Lib.hid hc
            clear hans hf c0 c1 c2 z4 hc
            rcases f1 with ⟨f1, f4⟩ | f1
            all_goals
              go_enter Tryz.func11, Tryz.ntmps11
              go_wp2
              go_quiet (fail)
              go_wp2_with (go_at_call 24; refine (HC.out _).mono ?_; rintro e w' ⟨rfl, m, rfl⟩)
              go_ret
              exact ⟨rfl, (Dr.refl w).drewN _⟩
        · have f1 : (((b0 : Int) != 45) = true ∧ ((b0 : Int) != 46) = false) ∨ ((b0 : Int) != 45) = false := by simp; omega
          have f2 : ((b1 : Int) != (b0 : Int)) = false := by simp; omega
          have f3 : ((b2 : Int) != (b0 : Int)) = true := by simp; omega
          have hf : ans = false := by rw [← hans]; simp; omega
          rw [hf]
          clear hans hf c0 c1 c2
          rcases f1 with ⟨f1, f4⟩ | f1
          all_goals
            go_enter Tryz.func11, Tryz.ntmps11
            go_wp2
            go_quiet (fail)
            go_wp2
            go_ret
            exact ⟨rfl, (Dr.refl w).drewN _⟩
      · have f1 : (((b0 : Int) != 45) = true ∧ ((b0 : Int) != 46) = false) ∨ ((b0 : Int) != 45) = false := by simp; omega
        have f2 : ((b1 : Int) != (b0 : Int)) = true := by simp; omega
        have hf : ans = false := by rw [← hans]; simp; omega
        rw [hf]
        clear hans hf c0 c1
        rcases f1 with ⟨f1, f4⟩ | f1
        all_goals
          go_enter Tryz.func11, Tryz.ntmps11
          go_wp2
          go_quiet (fail)
          go_wp2
          go_ret
          exact ⟨rfl, (Dr.refl w).drewN _⟩
    · have f1 : ((b0 : Int) != 45) = true := by simp; omega
      have f2 : ((b0 : Int) != 46) = true := by simp; omega
      have hf : ans = false := by rw [← hans]; simp; omega
      rw [hf]
      clear hans hf c0
      go_enter Tryz.func11, Tryz.ntmps11
      go_wp2
      go_quiet (fail)
      go_wp2
      go_ret
      exact ⟨rfl, (Dr.refl w).drewN _⟩
  · have z3 : (s.size : Int) < 3 := by omega
    have hf : ans = false := by rw [← hans]; unfold markedB; simp [h3]
    rw [hf]
    clear hans hf
    go_enter Tryz.func11, Tryz.ntmps11
    go_wp2
    go_quiet (fail)
    go_wp2
    go_ret
    exact ⟨rfl, (Dr.refl w).drewN _⟩
end Go.Proofs.YtpjfmfaijcbopaaGreatDoor
