/- The law FnPartComment. -/
import Derived.Test.YtpjfmfaijcbopaaGreatDoorSpecB
import Derived.Test.YtpjfmfaijcbopaaGreatDoorPlain
import Derived.Test.YtpjfmfaijcbopaaGreatDoorZz
namespace Go.Proofs.YtpjfmfaijcbopaaGreatDoor
open Go.RowKit

theorem content_no (c : Int) (h : content c = true) : c ≠ 10 ∧ c ≠ 13 := by
  constructor <;> rintro rfl <;> revert h <;> decide

/-- The text "#", a row, and a rest that is empty or begins with a line feed. -/
theorem isCom (l r : ByteArray) (hl : l.size ≤ 1000) (hrow : rowB l = true) (hr : r.size = 0 ∨ (0 < r.size ∧ by' r 0 = 10)) :
    IsCom (runes (⟨#[35]⟩ ++ l ++ r)) (runes l).length ∧ runesBytes (((runes (⟨#[35]⟩ ++ l ++ r)).drop 1).take (runes l).length) = l := by
  unfold rowB okText at hrow
  simp only [Bool.and_eq_true, decide_eq_true_eq] at hrow
  obtain ⟨⟨_, hv⟩, ha⟩ := hrow
  have e1 : runes (⟨#[35]⟩ ++ l ++ r) = 35 :: (runes l ++ runes r) := by
    rw [runes_rl, runes_rl, runes_rl, ByteArray.data_append, Array.toList_append, ByteArray.data_append, Array.toList_append, List.append_assoc]
    show rl (35 :: (l.data.toList ++ r.data.toList)) = _
    rw [rl_cons 35 _ (by decide), rl_append _ _ _ (Nat.le_refl _) hv]
    rfl
  have e2 : ((35 :: (runes l ++ runes r)).drop 1).take (runes l).length = runes l := by simp
  rw [e1, e2, runes_back l hv]
  have hlen := runes_length l
  refine ⟨⟨rfl, by omega, by simp; omega, fun j hj => ?_, fun h => .inl ?_, ?_, ?_⟩, rfl⟩
  · have e3 : (35 :: (runes l ++ runes r)).getD (1 + j) 0 = (runes l)[j] := by
      rw [Nat.add_comm]
      simp [List.getD, List.getElem?_append_left hj, hj]
    rw [e3]
    unfold allIn at ha
    have := List.all_eq_true.1 ha _ (List.getElem_mem hj)
    simp at this
    exact content_no _ this
  · have e3 : (35 :: (runes l ++ runes r)).getD (1 + (runes l).length) 0 = (runes r).getD 0 0 := by
      rw [Nat.add_comm]
      simp only [List.getD, List.getElem?_cons_succ]
      rw [List.getElem?_append_right (Nat.le_refl _), Nat.sub_self]
    rw [e3]
    rcases hr with hr | ⟨hr, h10⟩
    · have : (runes r).length ≤ r.size := runes_length r
      simp at h
      omega
    · have : runes r = 10 :: rl (r.data.toList.drop 1) := by
        obtain ⟨⟨b⟩⟩ := r
        cases b with
        | nil => simp [ByteArray.size] at hr
        | cons x t =>
          have hx : x.toNat = 10 := h10
          rw [runes_rl]
          show rl (x :: t) = _
          rw [rl_cons x t (by omega), hx]
          rfl
      rw [this]
      rfl
  · rw [e2, runes_back l hv]
  · rw [e2, runes_back l hv]; omega

theorem toList_no (r : ByteArray) (h : 0 < r.size) : ¬ r.toList = [] := by
  intro e
  have := congrArg List.length e
  rw [ByteArray.toList_eq] at this
  simp at this
  have h2 : r.data.size = r.size := rfl
  simp [this] at h
theorem isEmpty_no (r : ByteArray) (h : 0 < r.size) : r.toList.isEmpty = false := by
  have := toList_no r h
  cases e : r.toList with
  | nil => exact absurd e this
  | cons _ _ => rfl

set_option maxHeartbeats 4000000 in
theorem fnPartCommentGo (l r : ByteArray) (w : World) (hl : l.size ≤ 1000) (hr : r.size ≤ 2147483647) (hR : rowB l = true) (hr0 : r.size = 0 ∨ (0 < r.size ∧ by' r 0 = 10))
    (cR : Calls Tryz.prog 15 #[.string l] w fun e w' => e = .returned (.bool true) ∧ Below w.heap.size w w') :
    Calls Tryz.prog 5 #[.string l, .string r] w fun e w' => e = .returned (.bool true) ∧ Below w.heap.size w w' := by
  have z1 : ¬ ((2147483647 : Int) < (l.size : Int)) := by omega
  have z2 : ¬ ((2147483647 : Int) < (r.size : Int)) := by omega
  have z3 : ¬ ((1000 : Int) < (l.size : Int)) := by omega
  obtain ⟨hc, hv⟩ := isCom l r hl hR hr0
  have hlen := runes_length l
  have hconv := fun (w : World) => run_runes_of_string (P := Tryz.prog) w 9 27 21 l Tryz.underlying9 Tryz.underlying27 Tryz.underlying21 (by rw [runesFrom_runes]; simp [i32s]; omega)
  rw [runesFrom_runes] at hconv
  have hsz : (i32s (runes l)).toArray.size = (runes l).length := by simp [i32s]
  rw [hsz] at hconv
  have cS := fun w => scanImpl (⟨#[35]⟩ ++ l ++ r) (runes l).length w (by rw [ByteArray.size_append, ByteArray.size_append]; have : (⟨#[35]⟩ : ByteArray).size = 1 := rfl; omega) hc
  simp only [hv] at cS
  clear hc hv hR hsz
  obtain ⟨n, hn⟩ : ∃ n, (runes l).length = n := ⟨_, rfl⟩
  obtain ⟨R, hRR⟩ : ∃ R, (i32s (runes l)).toArray = R := ⟨_, rfl⟩
  rw [hn, hRR] at hconv
  rw [hn] at cS hlen
  clear hn hRR
  have hw1 : IntKind.i64.wrap ((n : Int) + 1) = (n : Int) + 1 := IntWalk.i64_in _ (by omega)
  have hw2 : IntKind.i64.wrap ((n : Int) + 1 + 1) = (n : Int) + 1 + 1 := IntWalk.i64_in _ (by omega)
  have CS := Lib.hid cS
  have CR := Lib.hid cR
  clear cS cR
  rcases hr0 with h0 | ⟨h0, h10⟩
  · have hre : r = ⟨#[]⟩ := by
      obtain ⟨⟨b⟩⟩ := r
      cases b with
      | nil => rfl
      | cons x t => simp [ByteArray.size] at h0
    subst hre
    go_enter Tryz.func5, Tryz.ntmps5
    go_wp2_with (first | (go_at_call 15; refine CR.out.mono ?_; rintro e w1 ⟨rfl, hb1⟩) | (go_at_call 16; refine (CS.out _).mono ?_; rintro e w2 ⟨g, c, org, a, b, d, f, h, rfl, hcells, hb2⟩; have c0 := hcells 0 _ rfl; have c3 := hcells 3 _ rfl; have n0 : ∀ o, (w2.alloc o).cell? ⟨g, 0, none⟩ = some (.int .i64 12) := fun o => (Kept.refl (fun _ => False) w2).alloc o |>.cell c0 (fun h => h); have n3 : ∀ o, (w2.alloc o).cell? ⟨g, 3, none⟩ = some (.string l) := fun o => (Kept.refl (fun _ => False) w2).alloc o |>.cell c3 (fun h => h); clear hcells))
    go_ret
    refine ⟨by simp; try omega, ?_⟩
    have k1 := hb1.size
    have k2 := hb2.size
    exact (((hb1.trans (hb2.mono k1)).alloc (by omega) _).drew)
  · have q1 := isEmpty_no r h0
    have q2 := toList_no r h0
    have i0 : (0 : Int) < (r.size : Int) := by omega
    have e0 := by'_get r 0 h0
    rw [h10] at e0
    go_enter Tryz.func5, Tryz.ntmps5
    go_wp2_with (first | (go_at_call 15; refine CR.out.mono ?_; rintro e w1 ⟨rfl, hb1⟩) | (go_at_call 16; refine (CS.out _).mono ?_; rintro e w2 ⟨g, c, org, a, b, d, f, h, rfl, hcells, hb2⟩; have c0 := hcells 0 _ rfl; have c3 := hcells 3 _ rfl; have n0 : ∀ o, (w2.alloc o).cell? ⟨g, 0, none⟩ = some (.int .i64 12) := fun o => (Kept.refl (fun _ => False) w2).alloc o |>.cell c0 (fun h => h); have n3 : ∀ o, (w2.alloc o).cell? ⟨g, 3, none⟩ = some (.string l) := fun o => (Kept.refl (fun _ => False) w2).alloc o |>.cell c3 (fun h => h); clear hcells))
    go_ret
    refine ⟨by simp; try omega, ?_⟩
    have k1 := hb1.size
    have k2 := hb2.size
    exact (((hb1.trans (hb2.mono k1)).alloc (by omega) _).drew)

set_option maxHeartbeats 4000000 in
theorem lawFnPartComment (l r : ByteArray) (w : World) (hl : l.size ≤ maxLen) (hr : r.size ≤ maxLen) (hT : Tabs w) :
    Calls Tryz.prog 5 #[.string l, .string r] w fun e w' => e = .returned (.bool true) ∧ Below w.heap.size w w' := by
  unfold maxLen at hl hr
  by_cases b1 : l.size ≤ 2147483647
  · have z1 : ¬ ((2147483647 : Int) < (l.size : Int)) := by omega
    by_cases b2 : r.size ≤ 2147483647
    · have z2 : ¬ ((2147483647 : Int) < (r.size : Int)) := by omega
      by_cases b3 : l.size ≤ 1000
      · have z3 : ¬ ((1000 : Int) < (l.size : Int)) := by omega
        have cR := row l w (by unfold maxLen; omega) hT
        cases hR : rowB l with
        | false =>
          rw [hR] at cR
          clear hT hl hr hR
          go_enter Tryz.func5, Tryz.ntmps5
          go_wp2_with (go_at_call 15; refine cR.mono ?_; rintro e w1 ⟨rfl, hb1⟩)
          go_ret
          exact ⟨rfl, hb1⟩
        | true =>
          rw [hR] at cR
          rcases Nat.eq_zero_or_pos r.size with h0 | h0
          · exact fnPartCommentGo l r w b3 b2 hR (.inl h0) cR
          · have q1 := isEmpty_no r h0
            have q2 := toList_no r h0
            have i0 : (0 : Int) < (r.size : Int) := by omega
            have e0 := by'_get r 0 h0
            by_cases h10 : by' r 0 = 10
            · exact fnPartCommentGo l r w b3 b2 hR (.inr ⟨h0, h10⟩) cR
            · obtain ⟨b0, hb0⟩ : ∃ b, by' r 0 = b := ⟨_, rfl⟩
              rw [hb0] at e0 h10
              have f0 : ((b0 : Int) != 10) = true := by simp; omega
              clear hT hl hr hR
              go_enter Tryz.func5, Tryz.ntmps5
              go_wp2_with (go_at_call 15; refine cR.mono ?_; rintro e w1 ⟨rfl, hb1⟩)
              go_ret
              exact ⟨rfl, hb1⟩
      · have z3 : (1000 : Int) < (l.size : Int) := by omega
        clear hT hl hr b1 b2 b3
        go_enter Tryz.func5, Tryz.ntmps5
        go_wp2_with fail
        go_ret
        exact ⟨rfl, Below.refl _ _⟩
    · have z2 : (2147483647 : Int) < (r.size : Int) := by omega
      clear hT hl hr b1 b2
      go_enter Tryz.func5, Tryz.ntmps5
      go_wp2_with fail
      go_ret
      exact ⟨rfl, Below.refl _ _⟩
  · have z1 : (2147483647 : Int) < (l.size : Int) := by omega
    clear hT hl hr b1
    go_enter Tryz.func5, Tryz.ntmps5
    go_wp2_with fail
    go_ret
    exact ⟨rfl, Below.refl _ _⟩
end Go.Proofs.YtpjfmfaijcbopaaGreatDoor
