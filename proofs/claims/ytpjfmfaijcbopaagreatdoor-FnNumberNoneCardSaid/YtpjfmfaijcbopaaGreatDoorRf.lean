/- internal/strconv.lower, underscoreOK, special. -/
import Derived.Test.YtpjfmfaijcbopaaGreatDoorPfa
namespace Go.Proofs.YtpjfmfaijcbopaaGreatDoor
open Go.RowKit Go.Proofs

/-- A byte with the bit 32 set. -/
def lowN (c : Nat) : Nat := c ||| 32
theorem low_run : ∀ c : Nat, c < 256 → bits .or .u8 (c : Int) 32 = ((lowN c : Nat) : Int) := by decide +kernel
theorem low_lt : ∀ c, c < 256 → lowN c < 256 := by decide +kernel
theorem low_e : ∀ c, c < 256 → lowN c = 101 → c = 69 ∨ c = 101 := by decide +kernel
theorem low_x : ∀ c, c < 256 → lowN c = 120 → c = 88 ∨ c = 120 := by decide +kernel
theorem low_p : ∀ c, c < 256 → lowN c = 112 → c = 80 ∨ c = 112 := by decide +kernel
theorem low_f : ∀ c, c < 256 → 97 ≤ lowN c → lowN c ≤ 102 → okb c = true := by decide +kernel
theorem okb_dig : ∀ c, c < 256 → 48 ≤ c → c ≤ 57 → okb c = true := by decide +kernel
theorem low222 (c : Nat) (hc : c < 256) (w : World) : Calls Tryz.prog 222 #[.int .u8 c] w fun e w' => e = .returned (.int .u8 (lowN c)) ∧ w = w' := by
  refine (Tryz.internal_strconv_lower c w).mono ?_
  rintro e w' ⟨rfl, rfl⟩
  exact ⟨by rw [low_run c hc], rfl⟩
/-- Some bool. -/
def AnyB (e : Ending) : Prop := ∃ v : Bool, e = .returned (.bool v)

set_option maxRecDepth 100000 in
set_option maxHeartbeats 8000000 in
theorem under241 (s : ByteArray) (w : World) (hs : s.size ≤ 4611686018427387904) : Calls Tryz.prog 241 #[.string s] w fun e w' => AnyB e ∧ w = w' := by
  have HI : Hid (∀ (t : ByteArray) (k : Nat) (hk : k < t.size) (w : World), (Instr.index 9 (.string t) (.int .i64 k)).run Tryz.prog w = .ok (.int .u8 (by' t k)) w) := Lib.hid idx_run
  have CL : Hid (∀ c : Nat, c < 256 → ∀ w, Calls Tryz.prog 222 #[.int .u8 c] w fun e w' => e = .returned (.int .u8 (lowN c)) ∧ w = w') := Lib.hid low222
  go_enter Tryz.func241, Tryz.ntmps241
  go_upto_region 3 with fail
  go_cut [18] (fun v wx => ∃ b : Bool, v = .bool b ∧ (b = true → 1 ≤ s.size) ∧ w = wx)
  case first =>
    by_cases h1 : 1 ≤ s.size
    · have hi : (1 : Int) ≤ (s.size : Int) := by omega
      have h0 : ∀ w, (Instr.index 9 (.string s) (.int .i64 0)).run Tryz.prog w = .ok (.int .u8 (by' s 0)) w := fun w => HI.out s 0 (by omega) w
      generalize by' s 0 = c at h0
      go_wp2_with fail
      all_goals
        go_meet
        exact ⟨_, rfl, fun _ => h1, rfl⟩
    · have hi : ¬ (1 : Int) ≤ (s.size : Int) := by omega
      go_wp2_with fail
      go_meet
      exact ⟨_, rfl, fun h => (by cases h), rfl⟩
  case rest =>
    obtain ⟨b, rfl, hb, rfl⟩ := hcut
    go_upto_if 18 with fail
    go_cut [0] (fun v wx => ∃ r : ByteArray, v = .string r ∧ r.size ≤ s.size ∧ w = wx)
    case first =>
      cases b
      · go_wp2_with fail
        go_meet
        exact ⟨_, rfl, Nat.le_refl _, rfl⟩
      · have h1 := hb rfl
        have hi : (1 : Int) ≤ (s.size : Int) := by omega
        clear hb
        go_wp2_with fail
        go_meet
        exact ⟨_, rfl, by rw [ByteArray.size_extract]; omega, rfl⟩
    case rest =>
      obtain ⟨r, rfl, hr, rfl⟩ := hcut
      clear hb
      go_upto_region 6 with fail
      go_cut [46] (fun v wx => ∃ b : Bool, v = .bool b ∧ (b = true → 2 ≤ r.size) ∧ w = wx)
      case first =>
        by_cases h1 : 2 ≤ r.size
        · have hi : (2 : Int) ≤ (r.size : Int) := by omega
          have h0 : ∀ w, (Instr.index 9 (.string r) (.int .i64 0)).run Tryz.prog w = .ok (.int .u8 (by' r 0)) w := fun w => HI.out r 0 (by omega) w
          have h2 : ∀ w, (Instr.index 9 (.string r) (.int .i64 1)).run Tryz.prog w = .ok (.int .u8 (by' r 1)) w := fun w => HI.out r 1 (by omega) w
          have hc := by'_lt r 1
          generalize by' r 0 = c at h0
          generalize by' r 1 = d at h2 hc
          have CC := Lib.hid (CL.out d hc)
          generalize lowN d = l at CC
          go_wp2_with (go_at_call 222; refine (CC.out _).mono ?_; rintro e w' ⟨rfl, rfl⟩)
          all_goals
            go_meet
            exact ⟨_, rfl, fun _ => h1, rfl⟩
        · have hi : ¬ (2 : Int) ≤ (r.size : Int) := by omega
          go_wp2_with fail
          go_meet
          exact ⟨_, rfl, fun h => (by cases h), rfl⟩
      case rest =>
        obtain ⟨b, rfl, hb, rfl⟩ := hcut
        go_upto_if 46 with fail
        go_cut [3, 4, 5] (fun sw i hx wx => ∃ (x : Int) (k : Nat) (h : Bool), sw = .int .i32 x ∧ i = .int .i64 k ∧ hx = .bool h ∧ k ≤ r.size ∧ w = wx)
        case first =>
          cases b
          · go_wp2_with fail
            go_meet
            exact ⟨94, 0, false, rfl, rfl, rfl, by omega, rfl⟩
          · have h1 := hb rfl
            have hi : (2 : Int) ≤ (r.size : Int) := by omega
            have h2 : ∀ w, (Instr.index 9 (.string r) (.int .i64 1)).run Tryz.prog w = .ok (.int .u8 (by' r 1)) w := fun w => HI.out r 1 (by omega) w
            have hc := by'_lt r 1
            generalize by' r 1 = d at h2 hc
            have CC := Lib.hid (CL.out d hc)
            generalize lowN d = l at CC
            clear hb
            go_wp2_with (go_at_call 222; refine (CC.out _).mono ?_; rintro e w' ⟨rfl, rfl⟩)
            go_meet
            exact ⟨48, 2, _, rfl, rfl, rfl, h1, rfl⟩
        case rest =>
          obtain ⟨x0, k0, hx, rfl, rfl, rfl, hk0, rfl⟩ := hcut
          clear hb
          cases hx
          all_goals
            go_wp2_with fail
            go_loop [3, 4] (fun sw i => ∃ (x : Int) (k : Nat), sw = .int .i32 x ∧ i = .int .i64 k ∧ k ≤ r.size) (fun _ i => r.size - (intOf i).toNat)
            case atStart => exact ⟨x0, k0, rfl, rfl, hk0⟩
            case round =>
              obtain ⟨x, k, rfl, rfl, hk⟩ := hrel
              by_cases hlt : k < r.size
              · have hi : (k : Int) < (r.size : Int) := by omega
                have h2 := fun w => HI.out r k hlt w
                have hc := by'_lt r k
                generalize by' r k = d at h2 hc
                have CC := Lib.hid (CL.out d hc)
                generalize lowN d = l at CC
                go_wp2_with (go_at_call 222; refine (CC.out _).mono ?_; rintro e w' ⟨rfl, rfl⟩)
                all_goals first
                  | (go_ret
                     exact ⟨⟨_, rfl⟩, rfl⟩)
                  | (go_round
                     case rel => exact ⟨_, k + 1, rfl, by go_num, by omega⟩
                     case measure => simp [intOf]; omega)
              · have hi : ¬ (k : Int) < (r.size : Int) := by omega
                go_wp2_with fail
                go_ret
                exact ⟨⟨_, rfl⟩, rfl⟩

/-- What special answers: some float, how many bytes, and whether; no byte that it has passed is a dot. -/
def SpEnd (s : ByteArray) (e : Ending) : Prop := ∃ (f : Nat) (i : Int) (ok : Bool), e = .returned (.tuple #[.float .f64 f, .int .i64 i, .bool ok]) ∧ (ok = true → ∃ n : Nat, i = n ∧ n ≤ s.size ∧ ∀ j, j < n → by' s j ≠ 46)
theorem SpEnd.yes {s : ByteArray} {f : Nat} {i : Int} (n : Nat) (hi : i = n) (h1 : n ≤ s.size) (h2 : ∀ j, j < n → by' s j ≠ 46) : SpEnd s (.returned (.tuple #[.float .f64 f, .int .i64 i, .bool true])) := ⟨f, i, true, rfl, fun _ => ⟨n, hi, h1, h2⟩⟩
theorem SpEnd.no {s : ByteArray} {f : Nat} {i : Int} : SpEnd s (.returned (.tuple #[.float .f64 f, .int .i64 i, .bool false])) := ⟨f, i, false, rfl, fun h => (by cases h)⟩
theorem by'_tail (s : ByteArray) (j : Nat) : by' (s.extract 1 s.size) j = by' s (j + 1) := by
  unfold by'
  rw [Lib.extract_data]
  have : (s.data.toList.drop 1).take (s.size - 1) = s.data.toList.drop 1 := List.take_of_length_le (by simp)
  rw [this, List.getD, List.getD, List.getElem?_drop, Nat.add_comm]
set_option maxRecDepth 100000 in
set_option maxHeartbeats 8000000 in
theorem special207 (s : ByteArray) (w : World) (hs : s.size ≤ 4611686018427387904) (hp : 0 < s.size) : Calls Tryz.prog 207 #[.string s] w fun e w' => SpEnd s e ∧ w = w' := by
  have hz : ((s.size : Int) == 0) = false := by rw [beq_eq_false_iff_ne]; omega
  have h0 : ∀ w, (Instr.index 9 (.string s) (.int .i64 0)).run Tryz.prog w = .ok (.int .u8 (by' s 0)) w := fun w => idx_run s 0 hp w
  have hp1 : (1 : Int) ≤ (s.size : Int) := by omega
  have C7 := Lib.hid inf247
  have C8 := Lib.hid nan248
  obtain ⟨c, hc⟩ : ∃ c, by' s 0 = c := ⟨_, rfl⟩
  have HC := Lib.hid hc
  rw [hc] at h0
  clear hc
  by_cases hsg : c = 43 ∨ c = 45
  · have C6 := Lib.hid (common246 (s.extract 1 s.size) ⟨#[105, 110, 102, 105, 110, 105, 116, 121]⟩ w (by rw [ByteArray.size_extract]; omega) (by decide) (by decide +kernel))
    have hex : (s.extract 1 s.size).size = s.size - 1 := by rw [ByteArray.size_extract]; omega
    have HEX := Lib.hid hex
    clear hex
    rcases hsg with rfl | rfl
    all_goals
      go_enter Tryz.func207, Tryz.ntmps207
      go_wp2_with fail
      refine C6.out.mono ?_
      rintro e w' ⟨⟨n, rfl, hn1, hn2, hn3⟩, rfl⟩
      have HN3 : Hid (∀ j, j < n + 1 → by' s j ≠ 46) := Lib.hid (fun j hj => by
        rcases Nat.eq_zero_or_pos j with rfl | h
        · rw [HC.out]; omega
        · obtain ⟨i, rfl⟩ : ∃ i, j = i + 1 := ⟨j - 1, by omega⟩
          rw [← by'_tail]
          exact hn3 i (by omega))
      have HN1 : Hid (n + 1 ≤ s.size) := Lib.hid (by have := HEX.out; omega)
      have hn8 : n ≤ 8 := hn2
      clear hn1 hn2 hn3 C6
      go_wp2_with (go_at_call 247; refine (C7.out _ _).mono ?_; rintro e w' ⟨⟨f, rfl⟩, rfl⟩)
      all_goals go_ret3
      all_goals first
        | exact ⟨SpEnd.no, rfl⟩
        | exact ⟨SpEnd.yes 4 rfl (by have := HN1.out; omega) (fun j hj => HN3.out j (by omega)), rfl⟩
        | exact ⟨SpEnd.yes (n + 1) (by omega) HN1.out HN3.out, rfl⟩
  by_cases hin : c = 105 ∨ c = 73
  · have C6 := Lib.hid (common246 s ⟨#[105, 110, 102, 105, 110, 105, 116, 121]⟩ w hs (by decide) (by decide +kernel))
    rcases hin with rfl | rfl
    all_goals
      clear hsg
      go_enter Tryz.func207, Tryz.ntmps207
      go_wp2_with fail
      refine C6.out.mono ?_
      rintro e w' ⟨⟨n, rfl, hn1, hn2, hn3⟩, rfl⟩
      have HN3 := Lib.hid hn3
      have HN1 := Lib.hid hn1
      have hn8 : n ≤ 8 := hn2
      clear hn1 hn2 hn3 C6
      go_wp2_with (go_at_call 247; refine (C7.out _ _).mono ?_; rintro e w' ⟨⟨f, rfl⟩, rfl⟩)
      all_goals go_ret3
      all_goals first
        | exact ⟨SpEnd.no, rfl⟩
        | exact ⟨SpEnd.yes 3 rfl (by have := HN1.out; omega) (fun j hj => HN3.out j (by omega)), rfl⟩
        | exact ⟨SpEnd.yes n (by omega) HN1.out HN3.out, rfl⟩
  by_cases hna : c = 110 ∨ c = 78
  · have C6 := Lib.hid (common246 s ⟨#[110, 97, 110]⟩ w hs (by decide) (by decide +kernel))
    rcases hna with rfl | rfl
    all_goals
      clear hsg hin
      go_enter Tryz.func207, Tryz.ntmps207
      go_wp2_with fail
      refine C6.out.mono ?_
      rintro e w' ⟨⟨n, rfl, hn1, hn2, hn3⟩, rfl⟩
      have HN3 := Lib.hid hn3
      have HN1 := Lib.hid hn1
      clear hn1 hn2 hn3 C6
      go_wp2_with (go_at_call 248; refine (C8.out _).mono ?_; rintro e w' ⟨⟨f, rfl⟩, rfl⟩)
      all_goals go_ret3
      all_goals first
        | exact ⟨SpEnd.no, rfl⟩
        | (rename_i heq
           have h3 : n = 3 := by have := beq_iff_eq.1 heq; omega
           exact ⟨SpEnd.yes 3 rfl (by have := HN1.out; omega) (fun j hj => HN3.out j (by omega)), rfl⟩)
  have q1 : ((c : Int) == 43) = false := by rw [beq_eq_false_iff_ne]; omega
  have q2 : ((c : Int) == 45) = false := by rw [beq_eq_false_iff_ne]; omega
  have q3 : ((c : Int) == 105) = false := by rw [beq_eq_false_iff_ne]; omega
  have q4 : ((c : Int) == 73) = false := by rw [beq_eq_false_iff_ne]; omega
  have q5 : ((c : Int) == 110) = false := by rw [beq_eq_false_iff_ne]; omega
  have q6 : ((c : Int) == 78) = false := by rw [beq_eq_false_iff_ne]; omega
  clear hsg hin hna
  go_enter Tryz.func207, Tryz.ntmps207
  go_wp2_with fail
  go_ret3
  exact ⟨SpEnd.no, rfl⟩
end Go.Proofs.YtpjfmfaijcbopaaGreatDoor
