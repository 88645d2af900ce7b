/- internal/strconv.ParseUint of a text with a byte that stands in no number: an error. -/
import Derived.Test.YtpjfmfaijcbopaaGreatDoorNn
import Derived.Test.YtpjfmfaijcbopaaGreatDoorShelfN
namespace Go.Proofs.YtpjfmfaijcbopaaGreatDoor
open Go.RowKit Go.Proofs

/-- An error: of the writing, or of the range. -/
def PuEnd (e : Ending) : Prop := ∃ v c : Int, e = .returned (.tuple #[.int .u64 v, .iface 161 (.int .i64 c)]) ∧ 0 ≤ v ∧ v ≤ 18446744073709551615 ∧ (c = 2 ∨ (c = 1 ∧ v = 18446744073709551615))
theorem puEnd2 : PuEnd (.returned (.tuple #[.int .u64 0, .iface 161 (.int .i64 2)])) := ⟨0, 2, rfl, by omega, by omega, .inl rfl⟩
theorem puEnd1 : PuEnd (.returned (.tuple #[.int .u64 18446744073709551615, .iface 161 (.int .i64 1)])) := ⟨_, 1, rfl, by omega, by omega, .inr ⟨rfl, rfl⟩⟩
theorem low_ok : ∀ c < 256, 97 ≤ bits .or .u8 ((c : Nat) : Int) 32 → bits .or .u8 ((c : Nat) : Int) 32 ≤ 102 → okb c = true := by decide +kernel
theorem dig_ok : ∀ c < 256, 48 ≤ c → c ≤ 57 → okb c = true := by decide +kernel
theorem by_getD (t : ByteArray) (j : Nat) : (t.data.toList.getD j 0).toNat = by' t j := rfl

set_option maxHeartbeats 32000000 in
set_option maxRecDepth 100000 in
theorem pu190_2 (t : ByteArray) (hmax : t.size ≤ 4294967296) (hbad : badL t.data.toList = true) (w : World) :
    Calls Tryz.prog 190 #[.string t, .int .i64 2, .int .i64 64] w fun e w' => PuEnd e ∧ Below w.heap.size w w' := by
  have hne : t.size ≠ 0 := by
    intro h
    have : t.data.toList = [] := by
      have : t.data.toList.length = 0 := by simpa using h
      exact List.length_eq_zero_iff.1 this
    rw [this] at hbad
    cases hbad
  have hemp : t.toList.isEmpty = false := by
    rw [← decide_eq_emptyBytes]
    exact decide_eq_false (fun h => hne (by rw [h]; rfl))
  have hcv := Lib.run_convert_string_bytes (P := Tryz.prog) w 9 128 5 t (u := .string) Tryz.underlying9 Tryz.underlying128 Tryz.underlying5
  have hB : Hid (∀ j, j < t.size → (Lib.bytesWorld w 5 t).cell? ⟨w.heap.size, j, none⟩ = some (.int .u8 (t.data.toList.getD j 0).toNat)) := Lib.hid (fun j hj => Lib.bytesWorld_cell w 5 t j hj)
  have hbel : Below w.heap.size w (Lib.bytesWorld w 5 t) := Lib.bytesWorld_below w 5 t
  obtain ⟨W1, hW1⟩ : ∃ W1, W1 = Lib.bytesWorld w 5 t := ⟨_, rfl⟩
  rw [← hW1] at hcv hB hbel
  clear hW1
  have HBEL := Lib.hid hbel
  have HBAD := Lib.hid hbad
  clear hbel hbad
  have hmv : IntKind.u64.wrap (IntKind.u64.wrap 18446744073709551616 - 1) = 18446744073709551615 := by
    rw [IntKind.wrap_u64, IntKind.wrap_u64]
    decide
  go_enter Tryz.func190, Tryz.ntmps190
  go_wp2
  go_loop [12, 13, 101] (fun vu vn vi => ∃ (k : Nat) (a : Int), vu = .bool false ∧ vn = .int .u64 a ∧ vi = .int .i64 k ∧ k ≤ t.size ∧ 0 ≤ a ∧ a < 18446744073709551616 ∧ Hid (badL (t.data.toList.take k) = false))
    (fun _ _ vi => t.size - (intOf vi).toNat)
  case atStart => exact ⟨0, 0, rfl, rfl, rfl, by omega, by omega, by omega, Lib.hid rfl⟩
  case round =>
    obtain ⟨k, a, rfl, rfl, rfl, hk, a0, a1, HL⟩ := hrel
    by_cases hkn : k < t.size
    · have hc := hB.out k hkn
      rw [by_getD] at hc
      have hnext : okb (by' t k) = true → badL (t.data.toList.take (k + 1)) = false := fun h => by rw [badL_take t k hkn, HL.out, h]; rfl
      have HNX := Lib.hid hnext
      have hc256 : by' t k < 256 := by unfold by'; exact UInt8.toNat_lt _
      have HC := Lib.hid hc256
      generalize by' t k = c at hc hc256 HNX HC
      clear hB HL hnext
      by_cases hdig : 48 ≤ c ∧ c ≤ 57
      · obtain ⟨hd0, hd1⟩ := hdig
        by_cases hdb : c < 50
        · by_cases hcut : 9223372036854775808 ≤ a
          · go_wp2
            go_ret2
            exact ⟨puEnd1, HBEL.out⟩
          · by_cases hov : 18446744073709551616 ≤ a * 2 + ((c : Int) - 48)
            · have icut : a < 9223372036854775808 := by omega
              first
                | omega
                | (have hwr : IntKind.u64.wrap (a * 2 + ((c : Int) - 48)) = a * 2 + ((c : Int) - 48) - 18446744073709551616 := by
                     rw [IntKind.wrap_u64]
                     omega
                   clear hcut
                   go_wp2
                   go_ret2
                   exact ⟨puEnd1, HBEL.out⟩)
            · have icut : a < 9223372036854775808 := by omega
              have iov : a * 2 + ((c : Int) - 48) < 18446744073709551616 := by omega
              clear hcut hov
              go_wp2
              refine ⟨⟨k + 1, a * 2 + ((c : Int) - 48), rfl, (by first | rfl | (congr 1; omega)), (by first | rfl | (congr 1; omega)), by omega, by omega, by omega, Lib.hid (HNX.out (dig_ok c HC.out hd0 hd1))⟩, by simp [intOf]; omega⟩
        · first
            | omega
            | (go_wp2
               go_ret2
               exact ⟨puEnd2, HBEL.out⟩)
      · by_cases hc95 : c = 95
        · subst hc95
          have CL : Hid (∀ w, Calls Tryz.prog 222 #[.int .u8 95] w fun e w' => e = .returned (.int .u8 127) ∧ w' = w) := Lib.hid (fun w => Tryz.internal_strconv_lower 95 w)
          clear hdig
          go_wp2_with (go_at_call 222; refine (CL.out _).mono ?_; rintro e w' ⟨rfl, rfl⟩)
          go_ret2
          exact ⟨puEnd2, HBEL.out⟩
        have hn95 : ¬ (c : Int) = 95 := by omega
        have hv0 := bits_lo_u8 .or (c : Int) 32
        have hv1 := bits_hi_u8 .or (c : Int) 32
        have HLO := Lib.hid (low_ok c HC.out)
        obtain ⟨v, hv⟩ : ∃ v, bits .or .u8 (c : Int) 32 = v := ⟨_, rfl⟩
        have CL : Hid (∀ w, Calls Tryz.prog 222 #[.int .u8 c] w fun e w' => e = .returned (.int .u8 v) ∧ w' = w) := Lib.hid (fun w => by rw [← hv]; exact Tryz.internal_strconv_lower c w)
        have hnd : ¬ (48 ≤ (c : Int) ∧ (c : Int) ≤ 57) := by omega
        rw [hv] at hv0 hv1 HLO
        clear hv hdig
        by_cases hv97 : v < 97
        · go_wp2_with (go_at_call 222; refine (CL.out _).mono ?_; rintro e w' ⟨rfl, rfl⟩)
          all_goals go_ret2
          all_goals exact ⟨puEnd2, HBEL.out⟩
        · by_cases hv122 : 122 < v
          · go_wp2_with (go_at_call 222; refine (CL.out _).mono ?_; rintro e w' ⟨rfl, rfl⟩)
            all_goals go_ret2
            all_goals exact ⟨puEnd2, HBEL.out⟩
          · by_cases hvd : v < 97
            · first
                | omega
                | (by_cases hcut : 9223372036854775808 ≤ a
                   · go_wp2_with (go_at_call 222; refine (CL.out _).mono ?_; rintro e w' ⟨rfl, rfl⟩)
                     all_goals go_ret2
                     all_goals exact ⟨puEnd1, HBEL.out⟩
                   · have icut : a < 9223372036854775808 := by omega
                     have iov : a * 2 + (v - 97 + 10) < 18446744073709551616 := by omega
                     clear hcut
                     go_wp2_with (go_at_call 222; refine (CL.out _).mono ?_; rintro e w' ⟨rfl, rfl⟩)
                     all_goals refine ⟨⟨k + 1, a * 2 + (v - 97 + 10), rfl, (by first | rfl | (congr 1; omega)), (by first | rfl | (congr 1; omega)), by omega, by omega, by omega, Lib.hid (HNX.out (HLO.out (by omega) (by omega)))⟩, by simp [intOf]; omega⟩)
            · go_wp2_with (go_at_call 222; refine (CL.out _).mono ?_; rintro e w' ⟨rfl, rfl⟩)
              all_goals go_ret2
              all_goals exact ⟨puEnd2, HBEL.out⟩
    · exfalso
      have hall : t.data.toList.take k = t.data.toList := List.take_of_length_le (by simp; omega)
      have := HL.out
      rw [hall, HBAD.out] at this
      cases this

set_option maxHeartbeats 32000000 in
set_option maxRecDepth 100000 in
theorem pu190_8 (t : ByteArray) (hmax : t.size ≤ 4294967296) (hbad : badL t.data.toList = true) (w : World) :
    Calls Tryz.prog 190 #[.string t, .int .i64 8, .int .i64 64] w fun e w' => PuEnd e ∧ Below w.heap.size w w' := by
  have hne : t.size ≠ 0 := by
    intro h
    have : t.data.toList = [] := by
      have : t.data.toList.length = 0 := by simpa using h
      exact List.length_eq_zero_iff.1 this
    rw [this] at hbad
    cases hbad
  have hemp : t.toList.isEmpty = false := by
    rw [← decide_eq_emptyBytes]
    exact decide_eq_false (fun h => hne (by rw [h]; rfl))
  have hcv := Lib.run_convert_string_bytes (P := Tryz.prog) w 9 128 5 t (u := .string) Tryz.underlying9 Tryz.underlying128 Tryz.underlying5
  have hB : Hid (∀ j, j < t.size → (Lib.bytesWorld w 5 t).cell? ⟨w.heap.size, j, none⟩ = some (.int .u8 (t.data.toList.getD j 0).toNat)) := Lib.hid (fun j hj => Lib.bytesWorld_cell w 5 t j hj)
  have hbel : Below w.heap.size w (Lib.bytesWorld w 5 t) := Lib.bytesWorld_below w 5 t
  obtain ⟨W1, hW1⟩ : ∃ W1, W1 = Lib.bytesWorld w 5 t := ⟨_, rfl⟩
  rw [← hW1] at hcv hB hbel
  clear hW1
  have HBEL := Lib.hid hbel
  have HBAD := Lib.hid hbad
  clear hbel hbad
  have hmv : IntKind.u64.wrap (IntKind.u64.wrap 18446744073709551616 - 1) = 18446744073709551615 := by
    rw [IntKind.wrap_u64, IntKind.wrap_u64]
    decide
  go_enter Tryz.func190, Tryz.ntmps190
  go_wp2
  go_loop [12, 13, 101] (fun vu vn vi => ∃ (k : Nat) (a : Int), vu = .bool false ∧ vn = .int .u64 a ∧ vi = .int .i64 k ∧ k ≤ t.size ∧ 0 ≤ a ∧ a < 18446744073709551616 ∧ Hid (badL (t.data.toList.take k) = false))
    (fun _ _ vi => t.size - (intOf vi).toNat)
  case atStart => exact ⟨0, 0, rfl, rfl, rfl, by omega, by omega, by omega, Lib.hid rfl⟩
  case round =>
    obtain ⟨k, a, rfl, rfl, rfl, hk, a0, a1, HL⟩ := hrel
    by_cases hkn : k < t.size
    · have hc := hB.out k hkn
      rw [by_getD] at hc
      have hnext : okb (by' t k) = true → badL (t.data.toList.take (k + 1)) = false := fun h => by rw [badL_take t k hkn, HL.out, h]; rfl
      have HNX := Lib.hid hnext
      have hc256 : by' t k < 256 := by unfold by'; exact UInt8.toNat_lt _
      have HC := Lib.hid hc256
      generalize by' t k = c at hc hc256 HNX HC
      clear hB HL hnext
      by_cases hdig : 48 ≤ c ∧ c ≤ 57
      · obtain ⟨hd0, hd1⟩ := hdig
        by_cases hdb : c < 56
        · by_cases hcut : 2305843009213693952 ≤ a
          · go_wp2
            go_ret2
            exact ⟨puEnd1, HBEL.out⟩
          · by_cases hov : 18446744073709551616 ≤ a * 8 + ((c : Int) - 48)
            · have icut : a < 2305843009213693952 := by omega
              first
                | omega
                | (have hwr : IntKind.u64.wrap (a * 8 + ((c : Int) - 48)) = a * 8 + ((c : Int) - 48) - 18446744073709551616 := by
                     rw [IntKind.wrap_u64]
                     omega
                   clear hcut
                   go_wp2
                   go_ret2
                   exact ⟨puEnd1, HBEL.out⟩)
            · have icut : a < 2305843009213693952 := by omega
              have iov : a * 8 + ((c : Int) - 48) < 18446744073709551616 := by omega
              clear hcut hov
              go_wp2
              refine ⟨⟨k + 1, a * 8 + ((c : Int) - 48), rfl, (by first | rfl | (congr 1; omega)), (by first | rfl | (congr 1; omega)), by omega, by omega, by omega, Lib.hid (HNX.out (dig_ok c HC.out hd0 hd1))⟩, by simp [intOf]; omega⟩
        · first
            | omega
            | (go_wp2
               go_ret2
               exact ⟨puEnd2, HBEL.out⟩)
      · by_cases hc95 : c = 95
        · subst hc95
          have CL : Hid (∀ w, Calls Tryz.prog 222 #[.int .u8 95] w fun e w' => e = .returned (.int .u8 127) ∧ w' = w) := Lib.hid (fun w => Tryz.internal_strconv_lower 95 w)
          clear hdig
          go_wp2_with (go_at_call 222; refine (CL.out _).mono ?_; rintro e w' ⟨rfl, rfl⟩)
          go_ret2
          exact ⟨puEnd2, HBEL.out⟩
        have hn95 : ¬ (c : Int) = 95 := by omega
        have hv0 := bits_lo_u8 .or (c : Int) 32
        have hv1 := bits_hi_u8 .or (c : Int) 32
        have HLO := Lib.hid (low_ok c HC.out)
        obtain ⟨v, hv⟩ : ∃ v, bits .or .u8 (c : Int) 32 = v := ⟨_, rfl⟩
        have CL : Hid (∀ w, Calls Tryz.prog 222 #[.int .u8 c] w fun e w' => e = .returned (.int .u8 v) ∧ w' = w) := Lib.hid (fun w => by rw [← hv]; exact Tryz.internal_strconv_lower c w)
        have hnd : ¬ (48 ≤ (c : Int) ∧ (c : Int) ≤ 57) := by omega
        rw [hv] at hv0 hv1 HLO
        clear hv hdig
        by_cases hv97 : v < 97
        · go_wp2_with (go_at_call 222; refine (CL.out _).mono ?_; rintro e w' ⟨rfl, rfl⟩)
          all_goals go_ret2
          all_goals exact ⟨puEnd2, HBEL.out⟩
        · by_cases hv122 : 122 < v
          · go_wp2_with (go_at_call 222; refine (CL.out _).mono ?_; rintro e w' ⟨rfl, rfl⟩)
            all_goals go_ret2
            all_goals exact ⟨puEnd2, HBEL.out⟩
          · by_cases hvd : v < 97
            · first
                | omega
                | (by_cases hcut : 2305843009213693952 ≤ a
                   · go_wp2_with (go_at_call 222; refine (CL.out _).mono ?_; rintro e w' ⟨rfl, rfl⟩)
                     all_goals go_ret2
                     all_goals exact ⟨puEnd1, HBEL.out⟩
                   · have icut : a < 2305843009213693952 := by omega
                     have iov : a * 8 + (v - 97 + 10) < 18446744073709551616 := by omega
                     clear hcut
                     go_wp2_with (go_at_call 222; refine (CL.out _).mono ?_; rintro e w' ⟨rfl, rfl⟩)
                     all_goals refine ⟨⟨k + 1, a * 8 + (v - 97 + 10), rfl, (by first | rfl | (congr 1; omega)), (by first | rfl | (congr 1; omega)), by omega, by omega, by omega, Lib.hid (HNX.out (HLO.out (by omega) (by omega)))⟩, by simp [intOf]; omega⟩)
            · go_wp2_with (go_at_call 222; refine (CL.out _).mono ?_; rintro e w' ⟨rfl, rfl⟩)
              all_goals go_ret2
              all_goals exact ⟨puEnd2, HBEL.out⟩
    · exfalso
      have hall : t.data.toList.take k = t.data.toList := List.take_of_length_le (by simp; omega)
      have := HL.out
      rw [hall, HBAD.out] at this
      cases this

set_option maxHeartbeats 32000000 in
set_option maxRecDepth 100000 in
theorem pu190_10 (t : ByteArray) (hmax : t.size ≤ 4294967296) (hbad : badL t.data.toList = true) (w : World) :
    Calls Tryz.prog 190 #[.string t, .int .i64 10, .int .i64 64] w fun e w' => PuEnd e ∧ Below w.heap.size w w' := by
  have hne : t.size ≠ 0 := by
    intro h
    have : t.data.toList = [] := by
      have : t.data.toList.length = 0 := by simpa using h
      exact List.length_eq_zero_iff.1 this
    rw [this] at hbad
    cases hbad
  have hemp : t.toList.isEmpty = false := by
    rw [← decide_eq_emptyBytes]
    exact decide_eq_false (fun h => hne (by rw [h]; rfl))
  have hcv := Lib.run_convert_string_bytes (P := Tryz.prog) w 9 128 5 t (u := .string) Tryz.underlying9 Tryz.underlying128 Tryz.underlying5
  have hB : Hid (∀ j, j < t.size → (Lib.bytesWorld w 5 t).cell? ⟨w.heap.size, j, none⟩ = some (.int .u8 (t.data.toList.getD j 0).toNat)) := Lib.hid (fun j hj => Lib.bytesWorld_cell w 5 t j hj)
  have hbel : Below w.heap.size w (Lib.bytesWorld w 5 t) := Lib.bytesWorld_below w 5 t
  obtain ⟨W1, hW1⟩ : ∃ W1, W1 = Lib.bytesWorld w 5 t := ⟨_, rfl⟩
  rw [← hW1] at hcv hB hbel
  clear hW1
  have HBEL := Lib.hid hbel
  have HBAD := Lib.hid hbad
  clear hbel hbad
  have hmv : IntKind.u64.wrap (IntKind.u64.wrap 18446744073709551616 - 1) = 18446744073709551615 := by
    rw [IntKind.wrap_u64, IntKind.wrap_u64]
    decide
  go_enter Tryz.func190, Tryz.ntmps190
  go_wp2
  go_loop [12, 13, 101] (fun vu vn vi => ∃ (k : Nat) (a : Int), vu = .bool false ∧ vn = .int .u64 a ∧ vi = .int .i64 k ∧ k ≤ t.size ∧ 0 ≤ a ∧ a < 18446744073709551616 ∧ Hid (badL (t.data.toList.take k) = false))
    (fun _ _ vi => t.size - (intOf vi).toNat)
  case atStart => exact ⟨0, 0, rfl, rfl, rfl, by omega, by omega, by omega, Lib.hid rfl⟩
  case round =>
    obtain ⟨k, a, rfl, rfl, rfl, hk, a0, a1, HL⟩ := hrel
    by_cases hkn : k < t.size
    · have hc := hB.out k hkn
      rw [by_getD] at hc
      have hnext : okb (by' t k) = true → badL (t.data.toList.take (k + 1)) = false := fun h => by rw [badL_take t k hkn, HL.out, h]; rfl
      have HNX := Lib.hid hnext
      have hc256 : by' t k < 256 := by unfold by'; exact UInt8.toNat_lt _
      have HC := Lib.hid hc256
      generalize by' t k = c at hc hc256 HNX HC
      clear hB HL hnext
      by_cases hdig : 48 ≤ c ∧ c ≤ 57
      · obtain ⟨hd0, hd1⟩ := hdig
        by_cases hdb : c < 58
        · by_cases hcut : 1844674407370955162 ≤ a
          · go_wp2
            go_ret2
            exact ⟨puEnd1, HBEL.out⟩
          · by_cases hov : 18446744073709551616 ≤ a * 10 + ((c : Int) - 48)
            · have icut : a < 1844674407370955162 := by omega
              first
                | omega
                | (have hwr : IntKind.u64.wrap (a * 10 + ((c : Int) - 48)) = a * 10 + ((c : Int) - 48) - 18446744073709551616 := by
                     rw [IntKind.wrap_u64]
                     omega
                   clear hcut
                   go_wp2
                   go_ret2
                   exact ⟨puEnd1, HBEL.out⟩)
            · have icut : a < 1844674407370955162 := by omega
              have iov : a * 10 + ((c : Int) - 48) < 18446744073709551616 := by omega
              clear hcut hov
              go_wp2
              refine ⟨⟨k + 1, a * 10 + ((c : Int) - 48), rfl, (by first | rfl | (congr 1; omega)), (by first | rfl | (congr 1; omega)), by omega, by omega, by omega, Lib.hid (HNX.out (dig_ok c HC.out hd0 hd1))⟩, by simp [intOf]; omega⟩
        · first
            | omega
            | (go_wp2
               go_ret2
               exact ⟨puEnd2, HBEL.out⟩)
      · by_cases hc95 : c = 95
        · subst hc95
          have CL : Hid (∀ w, Calls Tryz.prog 222 #[.int .u8 95] w fun e w' => e = .returned (.int .u8 127) ∧ w' = w) := Lib.hid (fun w => Tryz.internal_strconv_lower 95 w)
          clear hdig
          go_wp2_with (go_at_call 222; refine (CL.out _).mono ?_; rintro e w' ⟨rfl, rfl⟩)
          go_ret2
          exact ⟨puEnd2, HBEL.out⟩
        have hn95 : ¬ (c : Int) = 95 := by omega
        have hv0 := bits_lo_u8 .or (c : Int) 32
        have hv1 := bits_hi_u8 .or (c : Int) 32
        have HLO := Lib.hid (low_ok c HC.out)
        obtain ⟨v, hv⟩ : ∃ v, bits .or .u8 (c : Int) 32 = v := ⟨_, rfl⟩
        have CL : Hid (∀ w, Calls Tryz.prog 222 #[.int .u8 c] w fun e w' => e = .returned (.int .u8 v) ∧ w' = w) := Lib.hid (fun w => by rw [← hv]; exact Tryz.internal_strconv_lower c w)
        have hnd : ¬ (48 ≤ (c : Int) ∧ (c : Int) ≤ 57) := by omega
        rw [hv] at hv0 hv1 HLO
        clear hv hdig
        by_cases hv97 : v < 97
        · go_wp2_with (go_at_call 222; refine (CL.out _).mono ?_; rintro e w' ⟨rfl, rfl⟩)
          all_goals go_ret2
          all_goals exact ⟨puEnd2, HBEL.out⟩
        · by_cases hv122 : 122 < v
          · go_wp2_with (go_at_call 222; refine (CL.out _).mono ?_; rintro e w' ⟨rfl, rfl⟩)
            all_goals go_ret2
            all_goals exact ⟨puEnd2, HBEL.out⟩
          · by_cases hvd : v < 97
            · first
                | omega
                | (by_cases hcut : 1844674407370955162 ≤ a
                   · go_wp2_with (go_at_call 222; refine (CL.out _).mono ?_; rintro e w' ⟨rfl, rfl⟩)
                     all_goals go_ret2
                     all_goals exact ⟨puEnd1, HBEL.out⟩
                   · have icut : a < 1844674407370955162 := by omega
                     have iov : a * 10 + (v - 97 + 10) < 18446744073709551616 := by omega
                     clear hcut
                     go_wp2_with (go_at_call 222; refine (CL.out _).mono ?_; rintro e w' ⟨rfl, rfl⟩)
                     all_goals refine ⟨⟨k + 1, a * 10 + (v - 97 + 10), rfl, (by first | rfl | (congr 1; omega)), (by first | rfl | (congr 1; omega)), by omega, by omega, by omega, Lib.hid (HNX.out (HLO.out (by omega) (by omega)))⟩, by simp [intOf]; omega⟩)
            · go_wp2_with (go_at_call 222; refine (CL.out _).mono ?_; rintro e w' ⟨rfl, rfl⟩)
              all_goals go_ret2
              all_goals exact ⟨puEnd2, HBEL.out⟩
    · exfalso
      have hall : t.data.toList.take k = t.data.toList := List.take_of_length_le (by simp; omega)
      have := HL.out
      rw [hall, HBAD.out] at this
      cases this

set_option maxHeartbeats 32000000 in
set_option maxRecDepth 100000 in
theorem pu190_16 (t : ByteArray) (hmax : t.size ≤ 4294967296) (hbad : badL t.data.toList = true) (w : World) :
    Calls Tryz.prog 190 #[.string t, .int .i64 16, .int .i64 64] w fun e w' => PuEnd e ∧ Below w.heap.size w w' := by
  have hne : t.size ≠ 0 := by
    intro h
    have : t.data.toList = [] := by
      have : t.data.toList.length = 0 := by simpa using h
      exact List.length_eq_zero_iff.1 this
    rw [this] at hbad
    cases hbad
  have hemp : t.toList.isEmpty = false := by
    rw [← decide_eq_emptyBytes]
    exact decide_eq_false (fun h => hne (by rw [h]; rfl))
  have hcv := Lib.run_convert_string_bytes (P := Tryz.prog) w 9 128 5 t (u := .string) Tryz.underlying9 Tryz.underlying128 Tryz.underlying5
  have hB : Hid (∀ j, j < t.size → (Lib.bytesWorld w 5 t).cell? ⟨w.heap.size, j, none⟩ = some (.int .u8 (t.data.toList.getD j 0).toNat)) := Lib.hid (fun j hj => Lib.bytesWorld_cell w 5 t j hj)
  have hbel : Below w.heap.size w (Lib.bytesWorld w 5 t) := Lib.bytesWorld_below w 5 t
  obtain ⟨W1, hW1⟩ : ∃ W1, W1 = Lib.bytesWorld w 5 t := ⟨_, rfl⟩
  rw [← hW1] at hcv hB hbel
  clear hW1
  have HBEL := Lib.hid hbel
  have HBAD := Lib.hid hbad
  clear hbel hbad
  have hmv : IntKind.u64.wrap (IntKind.u64.wrap 18446744073709551616 - 1) = 18446744073709551615 := by
    rw [IntKind.wrap_u64, IntKind.wrap_u64]
    decide
  go_enter Tryz.func190, Tryz.ntmps190
  go_wp2
  go_loop [12, 13, 101] (fun vu vn vi => ∃ (k : Nat) (a : Int), vu = .bool false ∧ vn = .int .u64 a ∧ vi = .int .i64 k ∧ k ≤ t.size ∧ 0 ≤ a ∧ a < 18446744073709551616 ∧ Hid (badL (t.data.toList.take k) = false))
    (fun _ _ vi => t.size - (intOf vi).toNat)
  case atStart => exact ⟨0, 0, rfl, rfl, rfl, by omega, by omega, by omega, Lib.hid rfl⟩
  case round =>
    obtain ⟨k, a, rfl, rfl, rfl, hk, a0, a1, HL⟩ := hrel
    by_cases hkn : k < t.size
    · have hc := hB.out k hkn
      rw [by_getD] at hc
      have hnext : okb (by' t k) = true → badL (t.data.toList.take (k + 1)) = false := fun h => by rw [badL_take t k hkn, HL.out, h]; rfl
      have HNX := Lib.hid hnext
      have hc256 : by' t k < 256 := by unfold by'; exact UInt8.toNat_lt _
      have HC := Lib.hid hc256
      generalize by' t k = c at hc hc256 HNX HC
      clear hB HL hnext
      by_cases hdig : 48 ≤ c ∧ c ≤ 57
      · obtain ⟨hd0, hd1⟩ := hdig
        by_cases hdb : c < 64
        · by_cases hcut : 1152921504606846976 ≤ a
          · go_wp2
            go_ret2
            exact ⟨puEnd1, HBEL.out⟩
          · by_cases hov : 18446744073709551616 ≤ a * 16 + ((c : Int) - 48)
            · have icut : a < 1152921504606846976 := by omega
              first
                | omega
                | (have hwr : IntKind.u64.wrap (a * 16 + ((c : Int) - 48)) = a * 16 + ((c : Int) - 48) - 18446744073709551616 := by
                     rw [IntKind.wrap_u64]
                     omega
                   clear hcut
                   go_wp2
                   go_ret2
                   exact ⟨puEnd1, HBEL.out⟩)
            · have icut : a < 1152921504606846976 := by omega
              have iov : a * 16 + ((c : Int) - 48) < 18446744073709551616 := by omega
              clear hcut hov
              go_wp2
              refine ⟨⟨k + 1, a * 16 + ((c : Int) - 48), rfl, (by first | rfl | (congr 1; omega)), (by first | rfl | (congr 1; omega)), by omega, by omega, by omega, Lib.hid (HNX.out (dig_ok c HC.out hd0 hd1))⟩, by simp [intOf]; omega⟩
        · first
            | omega
            | (go_wp2
               go_ret2
               exact ⟨puEnd2, HBEL.out⟩)
      · by_cases hc95 : c = 95
        · subst hc95
          have CL : Hid (∀ w, Calls Tryz.prog 222 #[.int .u8 95] w fun e w' => e = .returned (.int .u8 127) ∧ w' = w) := Lib.hid (fun w => Tryz.internal_strconv_lower 95 w)
          clear hdig
          go_wp2_with (go_at_call 222; refine (CL.out _).mono ?_; rintro e w' ⟨rfl, rfl⟩)
          go_ret2
          exact ⟨puEnd2, HBEL.out⟩
        have hn95 : ¬ (c : Int) = 95 := by omega
        have hv0 := bits_lo_u8 .or (c : Int) 32
        have hv1 := bits_hi_u8 .or (c : Int) 32
        have HLO := Lib.hid (low_ok c HC.out)
        obtain ⟨v, hv⟩ : ∃ v, bits .or .u8 (c : Int) 32 = v := ⟨_, rfl⟩
        have CL : Hid (∀ w, Calls Tryz.prog 222 #[.int .u8 c] w fun e w' => e = .returned (.int .u8 v) ∧ w' = w) := Lib.hid (fun w => by rw [← hv]; exact Tryz.internal_strconv_lower c w)
        have hnd : ¬ (48 ≤ (c : Int) ∧ (c : Int) ≤ 57) := by omega
        rw [hv] at hv0 hv1 HLO
        clear hv hdig
        by_cases hv97 : v < 97
        · go_wp2_with (go_at_call 222; refine (CL.out _).mono ?_; rintro e w' ⟨rfl, rfl⟩)
          all_goals go_ret2
          all_goals exact ⟨puEnd2, HBEL.out⟩
        · by_cases hv122 : 122 < v
          · go_wp2_with (go_at_call 222; refine (CL.out _).mono ?_; rintro e w' ⟨rfl, rfl⟩)
            all_goals go_ret2
            all_goals exact ⟨puEnd2, HBEL.out⟩
          · by_cases hvd : v < 103
            · first
                | omega
                | (by_cases hcut : 1152921504606846976 ≤ a
                   · go_wp2_with (go_at_call 222; refine (CL.out _).mono ?_; rintro e w' ⟨rfl, rfl⟩)
                     all_goals go_ret2
                     all_goals exact ⟨puEnd1, HBEL.out⟩
                   · have icut : a < 1152921504606846976 := by omega
                     have iov : a * 16 + (v - 97 + 10) < 18446744073709551616 := by omega
                     clear hcut
                     go_wp2_with (go_at_call 222; refine (CL.out _).mono ?_; rintro e w' ⟨rfl, rfl⟩)
                     all_goals refine ⟨⟨k + 1, a * 16 + (v - 97 + 10), rfl, (by first | rfl | (congr 1; omega)), (by first | rfl | (congr 1; omega)), by omega, by omega, by omega, Lib.hid (HNX.out (HLO.out (by omega) (by omega)))⟩, by simp [intOf]; omega⟩)
            · go_wp2_with (go_at_call 222; refine (CL.out _).mono ?_; rintro e w' ⟨rfl, rfl⟩)
              all_goals go_ret2
              all_goals exact ⟨puEnd2, HBEL.out⟩
    · exfalso
      have hall : t.data.toList.take k = t.data.toList := List.take_of_length_le (by simp; omega)
      have := HL.out
      rw [hall, HBAD.out] at this
      cases this
end Go.Proofs.YtpjfmfaijcbopaaGreatDoor
