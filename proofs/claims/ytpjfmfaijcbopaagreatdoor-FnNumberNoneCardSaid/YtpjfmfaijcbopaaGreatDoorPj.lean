/- internal/strconv.ParseInt, strconv.ParseInt, strconv.ParseUint of a text with a byte that stands in no number: an error. -/
import Derived.Test.YtpjfmfaijcbopaaGreatDoorPi
namespace Go.Proofs.YtpjfmfaijcbopaaGreatDoor
open Go.RowKit Go.Proofs

/-- The bases that token.toNumber asks for. -/
def BaseOk (b : Int) : Prop := b = 2 ∨ b = 8 ∨ b = 10 ∨ b = 16
theorem pu190 (t : ByteArray) (b : Int) (hb : BaseOk b) (hmax : t.size ≤ 4294967296) (hbad : badL t.data.toList = true) (w : World) :
    Calls Tryz.prog 190 #[.string t, .int .i64 b, .int .i64 64] w fun e w' => PuEnd e ∧ Below w.heap.size w w' := by
  rcases hb with rfl | rfl | rfl | rfl
  · exact pu190_2 t hmax hbad w
  · exact pu190_8 t hmax hbad w
  · exact pu190_10 t hmax hbad w
  · exact pu190_16 t hmax hbad w

/-- An error of ParseInt. -/
def PiEnd (e : Ending) : Prop := ∃ v c : Int, e = .returned (.tuple #[.int .i64 v, .iface 161 (.int .i64 c)]) ∧ (c = 2 ∨ c = 1)

theorem idx_run (s : ByteArray) (k : Nat) (hk : k < s.size) (w : World) : (Instr.index 9 (.string s) (.int .i64 k)).run Tryz.prog w = .ok (.int .u8 (by' s k)) w := by
  rw [run_index_string w 9 s .i64 k Tryz.underlying9, dif_pos ⟨by omega, by omega⟩]
  unfold by'
  rw [List.getD, List.getElem?_eq_getElem (by simpa using hk)]
  rfl
theorem badL_ne {t : ByteArray} (h : badL t.data.toList = true) : 0 < t.size := by
  rcases Nat.eq_zero_or_pos t.size with h0 | h0
  · have : t.data.toList = [] := List.length_eq_zero_iff.1 (by simpa using h0)
    rw [this] at h
    cases h
  · exact h0
theorem bad_tail {t : ByteArray} (h : badL t.data.toList = true) (h0 : okb (by' t 0) = true) : badL (t.extract 1 t.size).data.toList = true := by
  have hp := badL_ne h
  have h1 : t.data.toList = t.data.toList.take 1 ++ (t.extract 1 t.size).data.toList := by
    rw [Lib.extract_data]
    have : (t.data.toList.drop 1).take (t.size - 1) = t.data.toList.drop 1 := List.take_of_length_le (by simp)
    rw [this, List.take_append_drop]
  rw [h1, badL_append] at h
  have h2 : badL (t.data.toList.take (0 + 1)) = false := by rw [badL_take t 0 hp, h0]; rfl
  rw [h2] at h
  simpa using h

theorem ifaceNe2 (w : World) : (binOp .neq 69 (.iface 161 (.int .i64 2)) (.iface 161 (.int .i64 1))).run Tryz.prog w = .ok (.bool true) w := by kernel_rfl
theorem ifaceNe1 (w : World) : (binOp .neq 69 (.iface 161 (.int .i64 1)) (.iface 161 (.int .i64 1))).run Tryz.prog w = .ok (.bool false) w := by kernel_rfl
set_option maxRecDepth 100000 in
set_option maxHeartbeats 8000000 in
theorem pi189 (t : ByteArray) (b : Int) (hb : BaseOk b) (hmax : t.size ≤ 4294967296) (hbad : badL t.data.toList = true) (w : World) :
    Calls Tryz.prog 189 #[.string t, .int .i64 b, .int .i64 64] w fun e w' => PiEnd e ∧ Below w.heap.size w w' := by
  have n2 := ifaceNe2
  have n1 := ifaceNe1
  have hpos := badL_ne hbad
  have hp1 : (1 : Int) ≤ (t.size : Int) := by omega
  have hemp : t.toList.isEmpty = false := by
    rw [← decide_eq_emptyBytes]
    exact decide_eq_false (fun h => by rw [h] at hpos; exact absurd hpos (by decide))
  have hix : ∀ w, (Instr.index 9 (.string t) (.int .i64 0)).run Tryz.prog w = .ok (.int .u8 (by' t 0)) w := fun w => idx_run t 0 hpos w
  have C1 : Hid (∀ w, Calls Tryz.prog 190 #[.string t, .int .i64 b, .int .i64 64] w fun e w' => PuEnd e ∧ Below w.heap.size w w') := Lib.hid (fun w => pu190 t b hb hmax hbad w)
  have C2 : Hid (okb (by' t 0) = true → ∀ w, Calls Tryz.prog 190 #[.string (t.extract 1 t.size), .int .i64 b, .int .i64 64] w fun e w' => PuEnd e ∧ Below w.heap.size w w') := Lib.hid (fun h w => pu190 _ b hb (by rw [ByteArray.size_extract]; omega) (bad_tail hbad h) w)
  have hc : by' t 0 < 256 := by unfold by'; exact UInt8.toNat_lt _
  generalize by' t 0 = c at hix C2 hc
  clear hbad hb hmax
  go_enter Tryz.func189, Tryz.ntmps189
  by_cases h43 : (c : Int) = 43
  · have C3 := Lib.hid (C2.out (by obtain rfl : c = 43 := by omega
                                   decide))
    clear C2 C1
    go_wp2_with fail
    refine (C3.out _).mono ?_
    rintro e w' ⟨⟨v, x, rfl, h0, h1, hx⟩, HB⟩
    have HBB := Lib.hid HB
    clear HB
    rcases hx with rfl | ⟨rfl, rfl⟩
    · go_wp2_with fail
      go_ret2
      exact ⟨⟨_, _, rfl, .inl rfl⟩, HBB.out⟩
    · go_wp2_with fail
      go_ret2
      exact ⟨⟨_, _, rfl, .inr rfl⟩, HBB.out⟩
  · by_cases h45 : (c : Int) = 45
    · have C3 := Lib.hid (C2.out (by obtain rfl : c = 45 := by omega
                                     decide))
      clear C2 C1
      go_wp2_with fail
      refine (C3.out _).mono ?_
      rintro e w' ⟨⟨v, x, rfl, h0, h1, hx⟩, HB⟩
      have HBB := Lib.hid HB
      clear HB
      rcases hx with rfl | ⟨rfl, rfl⟩
      · go_wp2_with fail
        go_ret2
        exact ⟨⟨_, _, rfl, .inl rfl⟩, HBB.out⟩
      · go_wp2_with fail
        go_ret2
        exact ⟨⟨_, _, rfl, .inr rfl⟩, HBB.out⟩
    · clear C2
      go_wp2_with fail
      refine (C1.out _).mono ?_
      rintro e w' ⟨⟨v, x, rfl, h0, h1, hx⟩, HB⟩
      have HBB := Lib.hid HB
      clear HB
      rcases hx with rfl | ⟨rfl, rfl⟩
      · go_wp2_with fail
        go_ret2
        exact ⟨⟨_, _, rfl, .inl rfl⟩, HBB.out⟩
      · go_wp2_with fail
        go_ret2
        exact ⟨⟨_, _, rfl, .inr rfl⟩, HBB.out⟩

/-- The two error values of strconv lie in their cells. -/
structure Errs (w : World) : Prop where
  lt : 3 < w.heap.size
  e2 : ∃ ev, w.cell? ⟨2, 0, none⟩ = some ev ∧ (ev = .nilIface ∨ ∃ te pe, ev = .iface te pe)
  e3 : ∃ ev, w.cell? ⟨3, 0, none⟩ = some ev ∧ (ev = .nilIface ∨ ∃ te pe, ev = .iface te pe)
theorem Errs.below {w w' : World} (h : Errs w) (hB : Below w.heap.size w w') : Errs w' := by
  have hl := h.lt
  refine ⟨by have := hB.size; omega, ?_, ?_⟩
  · rw [hB.cell (show (⟨2, 0, none⟩ : Addr).block < _ by show 2 < _; omega)]; exact h.e2
  · rw [hB.cell (show (⟨3, 0, none⟩ : Addr).block < _ by show 3 < _; omega)]; exact h.e3
/-- toError gives some error. -/
theorem toError90 (fn s : ByteArray) (b i c : Int) (w : World) (hc : c = 2 ∨ c = 1) (hmax : s.size ≤ 4294967296) (hE : Errs w) :
    Calls Tryz.prog 90 #[.string fn, .string s, .int .i64 b, .int .i64 i, .iface 161 (.int .i64 c)] w fun e w' => (∃ N, e = .returned (.iface 162 (.pointer (some ⟨N, 0, none⟩)))) ∧ Below w.heap.size w w' := by
  rcases hc with rfl | rfl
  · obtain ⟨ev, hv, hev⟩ := hE.e2
    refine (Tryz.strconv_toError_syntax fn s b i ev w (by omega) hv hev).mono ?_
    rintro e w' ⟨N, rfl, _, _, hB⟩
    exact ⟨⟨N, rfl⟩, hB⟩
  · obtain ⟨ev, hv, hev⟩ := hE.e3
    refine (Tryz.strconv_toError_range fn s b i ev w (by omega) hv hev).mono ?_
    rintro e w' ⟨N, rfl, _, _, hB⟩
    exact ⟨⟨N, rfl⟩, hB⟩

/-- A value and an error. -/
def ErrEnd (k : IntKind) (e : Ending) : Prop := ∃ (v : Int) (N : Nat), e = .returned (.tuple #[.int k v, .iface 162 (.pointer (some ⟨N, 0, none⟩))])
set_option maxHeartbeats 4000000 in
theorem pi141 (t : ByteArray) (b : Int) (hb : BaseOk b) (hmax : t.size ≤ 4294967296) (hbad : badL t.data.toList = true) (w : World) (hE : Errs w) :
    Calls Tryz.prog 141 #[.string t, .int .i64 b, .int .i64 64] w fun e w' => ErrEnd .i64 e ∧ Below w.heap.size w w' := by
  have C1 : Hid (∀ w, Calls Tryz.prog 189 #[.string t, .int .i64 b, .int .i64 64] w fun e w' => PiEnd e ∧ Below w.heap.size w w') := Lib.hid (fun w => pi189 t b hb hmax hbad w)
  have C2 : Hid (∀ (c : Int) (fn : ByteArray) (w : World), (c = 2 ∨ c = 1) → Errs w → Calls Tryz.prog 90 #[.string fn, .string t, .int .i64 b, .int .i64 64, .iface 161 (.int .i64 c)] w fun e w' => (∃ N, e = .returned (.iface 162 (.pointer (some ⟨N, 0, none⟩)))) ∧ Below w.heap.size w w') := Lib.hid (fun c fn w hc hE => toError90 fn t b 64 c w hc hmax hE)
  have HE := Lib.hid hE
  clear hbad hb hmax hE
  go_enter Tryz.func141, Tryz.ntmps141
  go_wp2_with fail
  refine (C1.out _).mono ?_
  rintro e w' ⟨⟨v, x, rfl, hx⟩, HB⟩
  have HBB := Lib.hid HB
  have HX := Lib.hid hx
  clear HB hx
  go_wp2_with fail
  refine (C2.out _ _ _ HX.out (HE.out.below HBB.out)).mono ?_
  rintro e w'' ⟨⟨N, rfl⟩, HB⟩
  have HB2 := Lib.hid (HBB.out.trans (HB.mono HBB.out.size))
  clear HB
  go_wp2_with fail
  go_ret2
  exact ⟨⟨_, _, rfl⟩, HB2.out⟩
set_option maxHeartbeats 4000000 in
theorem pu142 (t : ByteArray) (b : Int) (hb : BaseOk b) (hmax : t.size ≤ 4294967296) (hbad : badL t.data.toList = true) (w : World) (hE : Errs w) :
    Calls Tryz.prog 142 #[.string t, .int .i64 b, .int .i64 64] w fun e w' => ErrEnd .u64 e ∧ Below w.heap.size w w' := by
  have C1 : Hid (∀ w, Calls Tryz.prog 190 #[.string t, .int .i64 b, .int .i64 64] w fun e w' => PuEnd e ∧ Below w.heap.size w w') := Lib.hid (fun w => pu190 t b hb hmax hbad w)
  have C2 : Hid (∀ (c : Int) (fn : ByteArray) (w : World), (c = 2 ∨ c = 1) → Errs w → Calls Tryz.prog 90 #[.string fn, .string t, .int .i64 b, .int .i64 64, .iface 161 (.int .i64 c)] w fun e w' => (∃ N, e = .returned (.iface 162 (.pointer (some ⟨N, 0, none⟩)))) ∧ Below w.heap.size w w') := Lib.hid (fun c fn w hc hE => toError90 fn t b 64 c w hc hmax hE)
  have HE := Lib.hid hE
  clear hbad hb hmax hE
  go_enter Tryz.func142, Tryz.ntmps142
  go_wp2_with fail
  refine (C1.out _).mono ?_
  rintro e w' ⟨⟨v, x, rfl, h0, h1, hx⟩, HB⟩
  have HBB := Lib.hid HB
  have HX : Hid (x = 2 ∨ x = 1) := Lib.hid (by rcases hx with h | h; exact .inl h; exact .inr h.1)
  clear HB hx
  go_wp2_with fail
  refine (C2.out _ _ _ HX.out (HE.out.below HBB.out)).mono ?_
  rintro e w'' ⟨⟨N, rfl⟩, HB⟩
  have HB2 := Lib.hid (HBB.out.trans (HB.mono HBB.out.size))
  clear HB
  go_wp2_with fail
  go_ret2
  exact ⟨⟨_, _, rfl⟩, HB2.out⟩
end Go.Proofs.YtpjfmfaijcbopaaGreatDoor
