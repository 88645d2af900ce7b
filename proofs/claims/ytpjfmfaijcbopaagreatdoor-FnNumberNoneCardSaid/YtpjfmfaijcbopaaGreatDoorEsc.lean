/- spec.scHex, scLong, scNamed, scWhite, scEscape: the escape behind a backslash. -/
import Derived.Test.YtpjfmfaijcbopaaGreatDoorDq
import Derived.Test.YtpjfmfaijcbopaaGreatDoorCom
namespace Go.Proofs.YtpjfmfaijcbopaaGreatDoor
open Go.RowKit Go.Proofs

theorem ret_i32 {a b : Int} (h : a = b) : Ending.returned (.int .i32 a) = .returned (.int .i32 b) := by rw [h]
theorem ret_i64 {a b : Int} (h : a = b) : Ending.returned (.int .i64 a) = .returned (.int .i64 b) := by rw [h]

set_option maxHeartbeats 1000000 in
theorem scHex (c : Int) (w : World) (hc : 0 ≤ c ∧ c ≤ 1114111) : Calls Tryz.prog 42 #[.int .i32 c] w fun e w' => e = .returned (.int .i32 (hexv c)) ∧ w = w' := by
  obtain ⟨b, hb⟩ : ∃ b, hexv c = b := ⟨_, rfl⟩
  rw [hb]
  have HB := Lib.hid hb
  clear hb
  go_enter Tryz.func42, Tryz.ntmps42
  go_wp2
  all_goals go_ret
  all_goals refine ⟨ret_i32 ?_, rfl⟩
  all_goals (rw [← HB.out]; clear HB)
  all_goals (unfold hexv)
  all_goals (repeat' split)
  all_goals (first | omega | (simp; omega))

set_option maxHeartbeats 1000000 in
theorem scLong (c : Int) (w : World) : Calls Tryz.prog 96 #[.int .i32 c] w fun e w' => e = .returned (.int .i64 (longN c)) ∧ w = w' := by
  obtain ⟨b, hb⟩ : ∃ b, longN c = b := ⟨_, rfl⟩
  rw [hb]
  have HB := Lib.hid hb
  clear hb
  go_enter Tryz.func96, Tryz.ntmps96
  go_wp2
  all_goals go_ret
  all_goals refine ⟨ret_i64 ?_, rfl⟩
  all_goals (rw [← HB.out]; clear HB)
  all_goals (simp only [beq_iff_eq, beq_eq_false_iff_ne, ne_eq] at *)
  all_goals (unfold longN)
  all_goals (simp_all)

set_option maxHeartbeats 2000000 in
theorem scNamed (c : Int) (w : World) : Calls Tryz.prog 97 #[.int .i32 c] w fun e w' => e = .returned (.int .i32 (named c)) ∧ w = w' := by
  obtain ⟨b, hb⟩ : ∃ b, named c = b := ⟨_, rfl⟩
  rw [hb]
  have HB := Lib.hid hb
  clear hb
  go_enter Tryz.func97, Tryz.ntmps97
  go_wp2
  all_goals go_ret
  all_goals refine ⟨ret_i32 ?_, rfl⟩
  all_goals (rw [← HB.out]; clear HB)
  all_goals (simp only [beq_iff_eq, beq_eq_false_iff_ne, ne_eq] at *)
  all_goals (unfold named)
  all_goals (simp_all)

set_option maxHeartbeats 1000000 in
theorem scWhite (c : Int) (w : World) : Calls Tryz.prog 50 #[.int .i32 c] w fun e w' => e = .returned (.bool (c == 32 || c == 9)) ∧ w = w' := by
  go_enter Tryz.func50, Tryz.ntmps50
  go_wp2
  all_goals go_ret
  all_goals (refine ⟨ret_bool ?_, rfl⟩; simp_all)

/-- What scEscape answers. -/
def EscEnd (rs : List Int) (j : Nat) (e : Ending) : Prop :=
  (∀ v k, esc (rs.drop (j + 1)) = some (v, k) → e = .returned (.tuple #[.int .i32 v, .int .i64 ((j + 1 + k : Nat) : Int), .bool true])) ∧
  (esc (rs.drop (j + 1)) = none → ∃ x a, e = .returned (.tuple #[.int .i32 x, .int .i64 a, .bool false]))
theorem EscEnd.yes {rs : List Int} {j : Nat} {v : Int} {k : Nat} {e : Ending} (h : esc (rs.drop (j + 1)) = some (v, k)) (he : e = .returned (.tuple #[.int .i32 v, .int .i64 ((j + 1 + k : Nat) : Int), .bool true])) : EscEnd rs j e :=
  ⟨fun v' k' h' => (by rw [h] at h'; cases h'; exact he), fun h' => (by rw [h] at h'; cases h')⟩
theorem EscEnd.no {rs : List Int} {j : Nat} {x a : Int} {e : Ending} (h : esc (rs.drop (j + 1)) = none) (he : e = .returned (.tuple #[.int .i32 x, .int .i64 a, .bool false])) : EscEnd rs j e :=
  ⟨fun v' k' h' => (by rw [h] at h'; cases h'), fun _ => ⟨x, a, he⟩⟩

theorem drop_at (rs : List Int) (j : Nat) (h : j < rs.length) : rs.drop j = rs.getD j 0 :: rs.drop (j + 1) := by
  rw [List.drop_eq_getElem_cons h]; simp [List.getD, h]

theorem hexs_snoc : ∀ (ds : List Int) (a v d : Int), hexs a ds = some v → hexs a (ds ++ [d]) = if hexv d < 0 then none else some (v * 16 + hexv d)
  | [], a, v, d, h => by simp [hexs] at h; subst h; simp [hexs]
  | x :: t, a, v, d, h => by
    simp only [hexs] at h
    split at h
    · cases h
    · rename_i hx
      simp only [List.cons_append, hexs, if_neg hx]
      exact hexs_snoc t _ v d h
theorem hexs_none : ∀ (ds ts : List Int) (a : Int), hexs a ds = none → hexs a (ds ++ ts) = none
  | [], ts, a, h => by simp [hexs] at h
  | x :: t, ts, a, h => by
    simp only [hexs] at h
    simp only [List.cons_append, hexs]
    split at h
    · rename_i hx; rw [if_pos hx]
    · rename_i hx; rw [if_neg hx]; exact hexs_none t ts _ h
theorem hexs_bound : ∀ (ds : List Int) (a v : Int), hexs a ds = some v → 0 ≤ a → a * 16 ^ ds.length ≤ v ∧ v < (a + 1) * 16 ^ ds.length
  | [], a, v, h, _ => by simp [hexs] at h; subst h; simp; omega
  | x :: t, a, v, h, ha => by
    simp only [hexs] at h
    split at h
    · cases h
    · rename_i hx
      have h1 := hexv_hi x
      have ih := hexs_bound t _ v h (by omega)
      rw [List.length_cons, Int.pow_succ]
      have hp : (0 : Int) < 16 ^ t.length := Int.pow_pos (by omega)
      constructor
      · refine Int.le_trans ?_ ih.1
        rw [Int.mul_comm (16 ^ t.length) 16, ← Int.mul_assoc]
        exact Int.mul_le_mul_of_nonneg_right (by omega) (by omega)
      · refine Int.lt_of_lt_of_le ih.2 ?_
        rw [Int.mul_comm (16 ^ t.length) 16, ← Int.mul_assoc]
        exact Int.mul_le_mul_of_nonneg_right (by omega) (by omega)

/-- An escape of one letter. -/
theorem esc_named {rs : List Int} {j : Nat} (hj : j + 1 < rs.length) (h : longN (rs.getD (j + 1) 0) = 0) :
    esc (rs.drop (j + 1)) = if named (rs.getD (j + 1) 0) < 0 then none else some (named (rs.getD (j + 1) 0), 1) := by
  rw [drop_at rs _ hj]
  simp only [esc, if_pos h]
/-- An escape of hex digits. -/
theorem esc_long {rs : List Int} {j m : Nat} (hj : j + 1 < rs.length) (hm : m ≠ 0) (h : longN (rs.getD (j + 1) 0) = m) :
    esc (rs.drop (j + 1)) = if rs.length < j + 2 + m then none else match hexs 0 ((rs.drop (j + 2)).take m) with
      | none => none
      | some v => if v ≤ 1114111 ∧ (v < 55296 ∨ 57343 < v) then some (v, m + 1) else none := by
  rw [drop_at rs _ hj]
  simp only [esc, h, if_neg hm, List.length_drop]
  by_cases hl : rs.length < j + 2 + m
  · rw [if_pos (by omega), if_pos hl]
  · rw [if_neg (by omega), if_neg hl]
    rfl

set_option maxRecDepth 100000 in
set_option maxHeartbeats 4000000 in
theorem scEscape (rb cap : Nat) (rs : List Int) (j : Nat) (w : World) (hr : ∀ i, i < rs.length → w.cell? ⟨rb, i, none⟩ = some (.int .i32 (rs.getD i 0)))
    (hb : ∀ i, 0 ≤ rs.getD i 0 ∧ rs.getD i 0 ≤ 1114111) (hlen : rs.length ≤ 70368744177664) (hcap : rs.length ≤ cap) (hj : j + 1 < rs.length) (hU : rs.getD (j + 1) 0 ≠ 85) :
    Calls Tryz.prog 48 #[.slice (some ⟨rb, 0, none⟩) rs.length cap, .int .i64 j] w fun e w' => EscEnd rs j e ∧ w = w' := by
  have c1 := hr (j + 1) hj
  have hne : ((j : Int) + 1 == (rs.length : Int)) = false := by rw [beq_eq_false_iff_ne]; omega
  have i1 : (j : Int) + 1 < (rs.length : Int) := by omega
  have i0 : (0 : Int) ≤ (j : Int) + 1 := by omega
  obtain ⟨d, hd⟩ : ∃ d, rs.getD (j + 1) 0 = d := ⟨_, rfl⟩
  rw [hd] at c1 hU
  have CL : Hid (∀ w, Calls Tryz.prog 96 #[.int .i32 d] w fun e w' => e = .returned (.int .i64 (longN d)) ∧ w = w') := Lib.hid (scLong d)
  have CN : Hid (∀ w, Calls Tryz.prog 97 #[.int .i32 d] w fun e w' => e = .returned (.int .i32 (named d)) ∧ w = w') := Lib.hid (scNamed d)
  by_cases hl0 : longN d = 0
  · have he := esc_named hj (by rw [hd]; exact hl0)
    rw [hd] at he
    have CL : Hid (∀ w, Calls Tryz.prog 96 #[.int .i32 d] w fun e w' => e = .returned (.int .i64 0) ∧ w = w') := Lib.hid (fun w => by have := scLong d w; rw [hl0] at this; exact this)
    obtain ⟨v, hv⟩ : ∃ v, named d = v := ⟨_, rfl⟩
    rw [hv] at he CN
    have HE := Lib.hid he
    clear he hd hU hl0 hv hr hb
    go_enter Tryz.func48, Tryz.ntmps48
    go_wp2_with (first | (go_at_call 96; refine (CL.out _).mono ?_; rintro e w' ⟨rfl, rfl⟩) | (go_at_call 97; refine (CN.out _).mono ?_; rintro e w' ⟨rfl, rfl⟩))
    refine bodyPost_ret (v := .tuple #[.int .i32 v, .int .i64 ((j : Int) + 2), .bool (decide (0 ≤ v))]) (by simp [results, Tryz.results48, go_sem]) rfl ⟨?_, rfl⟩
    have he := HE.out
    by_cases hv : v < 0
    · rw [if_pos hv] at he
      rw [decide_eq_false (by omega)]
      exact EscEnd.no he rfl
    · rw [if_neg hv] at he
      rw [decide_eq_true (by omega)]
      refine EscEnd.yes he ?_
      rw [show ((j + 1 + 1 : Nat) : Int) = (j : Int) + 2 by omega]
  · obtain ⟨m, hm⟩ : ∃ m, longN d = m := ⟨_, rfl⟩
    rw [hm] at CL hl0
    have hm2 : m = 2 ∨ m = 4 := by
      unfold longN at hm
      rw [if_neg hU] at hm
      split at hm
      · omega
      · split at hm <;> omega
    have he := esc_long hj hl0 (by rw [hd]; exact hm)
    have m0 : ((m : Int) == 0) = false := by rw [beq_eq_false_iff_ne]; omega
    by_cases hlt : rs.length < j + 2 + m
    · rw [if_pos hlt] at he
      have HE := Lib.hid he
      have g1 : (rs.length : Int) < (j : Int) + 2 + (m : Int) := by omega
      clear he hd hU hl0 hm hr hb hlt
      go_enter Tryz.func48, Tryz.ntmps48
      go_wp2_with (first | (go_at_call 96; refine (CL.out _).mono ?_; rintro e w' ⟨rfl, rfl⟩) | (go_at_call 97; refine (CN.out _).mono ?_; rintro e w' ⟨rfl, rfl⟩))
      refine bodyPost_ret (v := .tuple #[.int .i32 0, .int .i64 0, .bool false]) (by simp [results, Tryz.results48, go_sem]) rfl ⟨EscEnd.no HE.out rfl, rfl⟩
    · rw [if_neg hlt] at he
      have g1 : ¬ (rs.length : Int) < (j : Int) + 2 + (m : Int) := by omega
      have hsl := slice_ab rb rs.length cap (j + 2) (j + 2 + m) w (by omega) (by omega)
      have hcut : cut rb cap (j + 2) = ⟨rb, j + 2, none⟩ := by unfold cut; rw [if_neg (by omega)]
      rw [hcut, show j + 2 + m - (j + 2) = m by omega] at hsl
      have hsl' : (Instr.slice 27 (.slice (some ⟨rb, 0, none⟩) rs.length cap) (some (.int .i64 ((j : Int) + 2))) (some (.int .i64 ((j : Int) + 2 + (m : Int)))) none).run Tryz.prog w = .ok (.slice (some ⟨rb, j + 2, none⟩) m (cap - (j + 2))) w := by
        have e1 : ((j + 2 : Nat) : Int) = (j : Int) + 2 := by omega
        have e2 : ((j + 2 + m : Nat) : Int) = (j : Int) + 2 + (m : Int) := by omega
        rw [← e2, ← e1]; exact hsl
      obtain ⟨ds, hds⟩ : ∃ ds, (rs.drop (j + 2)).take m = ds := ⟨_, rfl⟩
      have hdl : ds.length = m := by rw [← hds, List.length_take, List.length_drop]; omega
      have hget : ∀ i, i < m → ds.getD i 0 = rs.getD (j + 2 + i) 0 := fun i hi => by
        rw [← hds]
        simp only [List.getD, List.getElem?_take, List.getElem?_drop]
        rw [if_pos hi]
      have hcells : ∀ i, i < m → w.cell? ⟨rb, j + 2 + i, none⟩ = some (.int .i32 (ds.getD i 0)) := fun i hi => by rw [hget i hi, hr (j + 2 + i) (by omega)]
      have hdb : ∀ i, 0 ≤ ds.getD i 0 ∧ ds.getD i 0 ≤ 1114111 := fun i => by
        by_cases hi : i < m
        · rw [hget i hi]; exact hb _
        · simp [List.getD, List.getElem?_eq_none (by omega : ds.length ≤ i)]
      rw [hds] at he
      have HE := Lib.hid he
      have HC := Lib.hid hcells
      have HDB := Lib.hid hdb
      have HDL := Lib.hid hdl
      clear he hd hU hm hr hb hlt hsl hcut hds hcells hdb hdl hget
      go_enter Tryz.func48, Tryz.ntmps48
      go_wp2_with (first | (go_at_call 96; refine (CL.out _).mono ?_; rintro e w' ⟨rfl, rfl⟩))
      go_loop [8, 52] (fun v i => ∃ (k : Nat) (x : Int), k ≤ m ∧ i = .int .i64 k ∧ v = .int .i64 x ∧ Hid (hexs 0 (ds.take k) = some x)) (fun _ i => m - (intOf i).toNat)
      case atStart => exact ⟨0, 0, by omega, rfl, rfl, Lib.hid (by simp [hexs])⟩
      case round =>
        obtain ⟨k, x, hk, rfl, rfl, HX⟩ := hrel
        by_cases hlt : k < m
        · have hc := HC.out k hlt
          have hx0 := hexs_bound _ _ _ HX.out (by omega)
          rw [List.length_take, HDL.out, Nat.min_eq_left hk] at hx0
          have hpow : (16 : Int) ^ k ≤ 4096 := by
            rcases hm2 with rfl | rfl
            · have : k = 0 ∨ k = 1 := by omega
              rcases this with rfl | rfl <;> decide
            · have : k = 0 ∨ k = 1 ∨ k = 2 ∨ k = 3 := by omega
              rcases this with rfl | rfl | rfl | rfl <;> decide
          have hx1 : x < 4096 := by have := hx0.2; omega
          have hx2 : 0 ≤ x := by have := hx0.1; omega
          have hsn := hexs_snoc _ _ _ (ds.getD k 0) HX.out
          have htk : ds.take k ++ [ds.getD k 0] = ds.take (k + 1) := by
            rw [List.take_succ_eq_append_getElem (by rw [HDL.out]; exact hlt)]
            simp [List.getD, (by rw [HDL.out]; exact hlt : k < ds.length)]
          rw [htk] at hsn
          have hdk := HDB.out k
          obtain ⟨y, hy⟩ : ∃ y, ds.getD k 0 = y := ⟨_, rfl⟩
          rw [hy] at hc hsn hdk
          have CH : Hid (∀ w, Calls Tryz.prog 42 #[.int .i32 y] w fun e w' => e = .returned (.int .i32 (hexv y)) ∧ w = w') := Lib.hid (fun w => scHex y w hdk)
          have h15 := hexv_hi y
          obtain ⟨h, hh⟩ : ∃ h, hexv y = h := ⟨_, rfl⟩
          rw [hh] at hsn CH h15
          have HSN := Lib.hid hsn
          clear hsn htk hx0 hpow hdk hy hh
          by_cases hneg : h < 0
          · have hnone : hexs 0 ds = none := by
              have h1 := HSN.out
              rw [if_pos hneg] at h1
              have := hexs_none (ds.take (k + 1)) (ds.drop (k + 1)) 0 h1
              rwa [List.take_append_drop] at this
            have he := HE.out
            rw [hnone] at he
            have HE2 := Lib.hid he
            clear he hnone HE HX HSN
            go_wp2_with (go_at_call 42; refine (CH.out _).mono ?_; rintro e w' ⟨rfl, rfl⟩)
            refine bodyPost_ret (v := .tuple #[.int .i32 0, .int .i64 0, .bool false]) (by simp [results, Tryz.results48, go_sem]) rfl ⟨EscEnd.no HE2.out rfl, rfl⟩
          · have hs := HSN.out
            rw [if_neg hneg] at hs
            have HS := Lib.hid hs
            clear hs HSN HX
            go_wp2_with (go_at_call 42; refine (CH.out _).mono ?_; rintro e w' ⟨rfl, rfl⟩)
            go_round
            case rel => exact ⟨k + 1, x * 16 + h, by omega, by go_num, by go_num, HS⟩
            case measure => simp [intOf]; omega
        · obtain rfl : k = m := by omega
          have hx := HX.out
          rw [List.take_of_length_le (by rw [HDL.out]; omega)] at hx
          have hx0 := hexs_bound _ _ _ hx (by omega)
          rw [HDL.out] at hx0
          have hpow : (16 : Int) ^ k ≤ 65536 := by rcases hm2 with rfl | rfl <;> decide
          have hx1 : x < 65536 := by have := hx0.2; omega
          have hx2 : 0 ≤ x := by have := hx0.1; omega
          have he := HE.out
          rw [hx] at he
          have HE2 := Lib.hid he
          have g2 : ¬ (1114112 : Int) < x := by omega
          have g3 : decide (x ≤ 1114111) = true := by simp; omega
          clear he hx hx0 hpow HE HX
          by_cases hs : x < 55296
          · go_wp2
            refine bodyPost_ret (v := .tuple #[.int .i32 x, .int .i64 ((j : Int) + 2 + (k : Int)), .bool true]) (by simp [results, Tryz.results48, go_sem]; try omega) rfl ⟨EscEnd.yes (k := k + 1) (by rw [HE2.out, if_pos (by omega)]) ?_, rfl⟩
            rw [show ((j + 1 + (k + 1) : Nat) : Int) = (j : Int) + 2 + (k : Int) by omega]
          · by_cases hs2 : 57343 < x
            · go_wp2
              refine bodyPost_ret (v := .tuple #[.int .i32 x, .int .i64 ((j : Int) + 2 + (k : Int)), .bool true]) (by simp [results, Tryz.results48, go_sem]; try omega) rfl ⟨EscEnd.yes (k := k + 1) (by rw [HE2.out, if_pos (by omega)]) ?_, rfl⟩
              rw [show ((j + 1 + (k + 1) : Nat) : Int) = (j : Int) + 2 + (k : Int) by omega]
            · go_wp2
              refine bodyPost_ret (v := .tuple #[.int .i32 x, .int .i64 ((j : Int) + 2 + (k : Int)), .bool false]) (by simp [results, Tryz.results48, go_sem]; try omega) rfl ⟨EscEnd.no (by rw [HE2.out, if_neg (by omega)]) rfl, rfl⟩
end Go.Proofs.YtpjfmfaijcbopaaGreatDoor
