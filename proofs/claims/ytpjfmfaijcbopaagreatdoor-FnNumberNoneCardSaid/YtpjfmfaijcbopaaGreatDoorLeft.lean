/- impl.Left, of the two names that this seat's statements hand it. -/
import Derived.Test.YtpjfmfaijcbopaaGreatDoorRd
import Derived.Deep.DeepCutAuto
namespace Go.Proofs.YtpjfmfaijcbopaaGreatDoor
open Go.RowKit Go.Proofs

def qName : ByteArray := ⟨#[70, 110, 81, 117, 111, 116, 101, 100, 83, 99, 97, 110, 110, 101, 100]⟩
def nName : ByteArray := ⟨#[70, 110, 78, 117, 109, 98, 101, 114, 78, 111, 110, 101]⟩

/-- Is one of the first k bytes c? -/
def hasc (s : ByteArray) (c k : Nat) : Bool := (List.range k).any fun i => by' s i == c
theorem hasc_succ (s : ByteArray) (c k : Nat) : hasc s c (k + 1) = (hasc s c k || by' s k == c) := by
  unfold hasc
  rw [List.range_succ, List.any_append]
  simp
def hasCells (s : ByteArray) (k : Nat) : List Value := (List.range 128).map fun c => .bool (hasc s c k)

theorem zero67 : Tryz.zeroCells67 = (List.replicate 128 (Value.bool false)).toArray := by kernel_rfl
theorem hasCells_zero (s : ByteArray) : hasCells s 0 = List.replicate 128 (Value.bool false) := by
  unfold hasCells
  have : (fun c => Value.bool (hasc s c 0)) = fun _ => Value.bool false := by funext c; rfl
  rw [this, List.map_const', List.length_range]
theorem hasCells_get (s : ByteArray) (k c : Nat) (hc : c < 128) : (hasCells s k)[c]? = some (.bool (hasc s c k)) := by
  unfold hasCells
  simp [hc]
theorem hasCells_set (s : ByteArray) (k : Nat) : (hasCells s k).set (by' s k % 128) (.bool (hasc s (by' s k % 128) k || decide (by' s k < 128))) = hasCells s (k + 1) := by
  have hb := by'_lt s k
  have hl : (hasCells s k).length = 128 := by unfold hasCells; simp
  apply List.ext_getElem?
  intro i
  by_cases hi : i < 128
  · rw [hasCells_get _ _ _ hi, hasc_succ]
    by_cases he : by' s k % 128 = i
    · subst he
      rw [List.getElem?_set_self (by omega)]
      congr 3
      by_cases h2 : by' s k < 128
      · have : by' s k % 128 = by' s k := Nat.mod_eq_of_lt h2
        simp [h2, this]
      · have : by' s k ≠ by' s k % 128 := by omega
        simp [h2, this]
    · rw [List.getElem?_set_ne he, hasCells_get _ _ _ hi]
      have : by' s k ≠ i := by omega
      simp [this]
  · have hl2 : (hasCells s (k + 1)).length = 128 := by unfold hasCells; simp
    rw [List.getElem?_eq_none (by rw [List.length_set]; omega), List.getElem?_eq_none (by omega)]
theorem bits127 : ∀ b : Fin 256, bits .and .u8 (b.val : Int) 127 = ((b.val % 128 : Nat) : Int) := by decide +kernel
/-- The world of Left's loop. -/
def LeftW (s : ByteArray) (w : World) (k : Nat) (wr : World) : Prop := Blk wr w.heap.size (hasCells s k) 67 ∧ Below w.heap.size w wr
theorem LeftW.start (s : ByteArray) (w : World) : LeftW s w 0 (w.alloc (.cells Tryz.zeroCells67 67)) := by
  refine ⟨?_, (Below.refl _ _).alloc (Nat.le_refl _) _⟩
  rw [zero67, hasCells_zero]
  exact Blk.new w _ 67
theorem LeftW.next {s : ByteArray} {w wr : World} {k : Nat} (h : LeftW s w k wr) : LeftW s w (k + 1) (wr.setCell ⟨w.heap.size, by' s k % 128, none⟩ (.bool (hasc s (by' s k % 128) k || decide (by' s k < 128)))) := by
  refine ⟨?_, h.2.setCell (Nat.le_refl _) _⟩
  rw [← hasCells_set]
  exact h.1.set _ _
theorem isEmpty_no' (r : ByteArray) (h : 0 < r.size) : r.toList.isEmpty = false := by
  have : r.toList ≠ [] := by
    intro e
    have := congrArg List.length e
    rw [ByteArray.toList_eq] at this
    simp at this
    have h2 : r.data.size = r.size := rfl
    simp [this] at h
  cases e : r.toList with
  | nil => exact absurd e this
  | cons _ _ => rfl
/-- What Left answers to the two names. -/
def leftB (nm s : ByteArray) : Bool := if nm = qName then (decide (s.size ≠ 0) && by' s (s.size - 1) == 92) else ((hasc s 112 s.size || hasc s 80 s.size) && (hasc s 120 s.size || hasc s 88 s.size))
theorem leftB_q (s : ByteArray) : leftB qName s = (decide (s.size ≠ 0) && by' s (s.size - 1) == 92) := by unfold leftB; rw [if_pos rfl]
theorem leftB_n (s : ByteArray) : leftB nName s = ((hasc s 112 s.size || hasc s 80 s.size) && (hasc s 120 s.size || hasc s 88 s.size)) := by unfold leftB; rw [if_neg (by decide)]

set_option maxRecDepth 1000000 in
set_option maxHeartbeats 16000000 in
theorem left20 (nm s : ByteArray) (w : World) (hs : s.size ≤ 9223372036854775806) (hnm : nm = qName ∨ nm = nName) : Calls Tryz.prog 20 #[.string nm, .string s] w fun e w' => e = .returned (.bool (leftB nm s)) ∧ Below w.heap.size w w' := by
  obtain ⟨ans, hans⟩ : ∃ b, leftB nm s = b := ⟨_, rfl⟩
  rw [hans]
  have HA := Lib.hid hans
  clear hans
  have HN := Lib.hid hnm
  clear hnm
  go_enter Tryz.func20, Tryz.ntmps20
  go_wp2_with fail
  go_loopg [6, 7, 8, 9, 10, 11, 12, 13, 14, 15, 16, 17, 18, 19, 20] s.size (fun g b6 i7 i8 i9 b10 b11 b12 b13 b14 b15 b16 b17 b18 b19 i wx => ∃ (k : Nat) (x6 x10 x11 x12 x13 x14 x15 x16 x17 x18 x19 : Bool) (y7 y8 y9 : Int),
    k ≤ s.size ∧ g = s.size - k ∧ i = .int .i64 k ∧ b6 = .bool x6 ∧ b10 = .bool x10 ∧ b11 = .bool x11 ∧ b12 = .bool x12 ∧ b13 = .bool x13 ∧ b14 = .bool x14 ∧ b15 = .bool x15 ∧ b16 = .bool x16 ∧ b17 = .bool x17 ∧ b18 = .bool x18 ∧ b19 = .bool x19 ∧
    i7 = .int .i64 y7 ∧ i8 = .int .i64 y8 ∧ i9 = .int .i64 y9 ∧ Hid (LeftW s w k wx))
  case atStart => exact ⟨0, false, true, false, false, false, false, false, false, false, false, false, 0, 0, 0, by omega, by omega, rfl, rfl, rfl, rfl, rfl, rfl, rfl, rfl, rfl, rfl, rfl, rfl, rfl, rfl, rfl, Lib.hid (LeftW.start s w)⟩
  case round =>
    obtain ⟨k, x6, x10, x11, x12, x13, x14, x15, x16, x17, x18, x19, y7, y8, y9, hk, rfl, rfl, rfl, rfl, rfl, rfl, rfl, rfl, rfl, rfl, rfl, rfl, rfl, rfl, rfl, rfl, HW⟩ := hrel
    by_cases hlt : k < s.size
    · have e0 := by'_get s k hlt
      have hb := by'_lt s k
      have hcell := HW.out.1.cell (by' s k % 128) _ (hasCells_get s k _ (by omega))
      have hfree := HW.out.1.free (by' s k % 128)
      have hnx := Lib.hid HW.out.next
      obtain ⟨b, hbe⟩ : ∃ b, by' s k = b := ⟨_, rfl⟩
      rw [hbe] at e0 hb hcell hfree hnx
      clear hbe
      obtain ⟨hv, hhv⟩ : ∃ v, hasc s (b % 128) k = v := ⟨_, rfl⟩
      rw [hhv] at hcell hnx
      clear hhv
      have hbits := bits127 ⟨b, hb⟩
      simp only [] at hbits
      obtain ⟨m, hm⟩ : ∃ m, b % 128 = m := ⟨_, rfl⟩
      rw [hm] at hcell hfree hnx hbits
      have hm1 : (m : Int) < 128 := by omega
      clear hm
      go_upto_region 8 with fail
      go_cut [20] (fun i wx => i = .int .i64 k ∧ Hid (LeftW s w (k + 1) wx))
      case first =>
        cases hv with
        | true =>
          go_wp2_with fail
          go_meet
          exact ⟨rfl, hnx⟩
        | false =>
          by_cases h128 : b < 128
          · have hd : decide ((b : Int) < 128) = true := by simp; omega
            go_wp2_with fail
            rw [show (false || decide (b < 128)) = true by simp; omega] at hnx
            go_meet
            exact ⟨rfl, hnx⟩
          · have hd : decide ((b : Int) < 128) = false := by simp; omega
            go_wp2_with fail
            rw [show (false || decide (b < 128)) = false by simp; omega] at hnx
            go_meet
            exact ⟨rfl, hnx⟩
      case rest =>
        obtain ⟨rfl, HW1⟩ := hcut
        clear hcell hfree hnx HW hbits e0 hb hm1
        go_upto_region 9 with fail
        go_cut [21, 10, 6] (fun c v e6 wx => (∃ x : Int, c = .int .u8 x) ∧ (∃ x : Bool, v = .bool x) ∧ (∃ x : Bool, e6 = .bool x) ∧ Hid (LeftW s w (k + 1) wx))
        case first =>
          as_aux_lemma =>
            go_wp2_with fail
            all_goals (go_meet; exact ⟨⟨_, rfl⟩, ⟨_, rfl⟩, ⟨_, rfl⟩, HW1⟩)
        case rest =>
          obtain ⟨⟨z0c, rfl⟩, ⟨z0v, rfl⟩, ⟨z0e6, rfl⟩, HW1⟩ := hcut
          go_upto_if 62 with fail
          go_cut [21, 10, 7] (fun c v e7 wx => (∃ x : Int, c = .int .u8 x) ∧ (∃ x : Bool, v = .bool x) ∧ (∃ x : Int, e7 = .int .i64 x) ∧ Hid (LeftW s w (k + 1) wx))
          case first =>
            as_aux_lemma =>
              go_wp2_with fail
              all_goals (go_meet; exact ⟨⟨_, rfl⟩, ⟨_, rfl⟩, ⟨_, rfl⟩, HW1⟩)
          case rest =>
            obtain ⟨⟨z1c, rfl⟩, ⟨z1v, rfl⟩, ⟨z1e7, rfl⟩, HW1⟩ := hcut
            go_upto_region 12 with fail
            go_cut [21, 10, 74] (fun c v e74 wx => (∃ x : Int, c = .int .u8 x) ∧ (∃ x : Bool, v = .bool x) ∧ (∃ x : Bool, e74 = .bool x) ∧ Hid (LeftW s w (k + 1) wx))
            case first =>
              as_aux_lemma =>
                go_wp2_with fail
                all_goals (go_meet; exact ⟨⟨_, rfl⟩, ⟨_, rfl⟩, ⟨_, rfl⟩, HW1⟩)
            case rest =>
              obtain ⟨⟨z2c, rfl⟩, ⟨z2v, rfl⟩, ⟨z2e74, rfl⟩, HW1⟩ := hcut
              go_upto_if 74 with fail
              go_cut [21, 10, 8] (fun c v e8 wx => (∃ x : Int, c = .int .u8 x) ∧ (∃ x : Bool, v = .bool x) ∧ (∃ x : Int, e8 = .int .i64 x) ∧ Hid (LeftW s w (k + 1) wx))
              case first =>
                as_aux_lemma =>
                  go_wp2_with fail
                  all_goals (go_meet; exact ⟨⟨_, rfl⟩, ⟨_, rfl⟩, ⟨_, rfl⟩, HW1⟩)
              case rest =>
                obtain ⟨⟨z3c, rfl⟩, ⟨z3v, rfl⟩, ⟨z3e8, rfl⟩, HW1⟩ := hcut
                go_upto_if 81 with fail
                go_cut [21, 22, 10] (fun c d v wx => (∃ x : Int, c = .int .u8 x) ∧ (∃ x : Int, d = .int .u8 x) ∧ (∃ x : Bool, v = .bool x) ∧ Hid (LeftW s w (k + 1) wx))
                case first =>
                  as_aux_lemma =>
                    by_cases hk1 : k + 1 < s.size
                    · have e1 := by'_get s (k + 1) hk1
                      have hi1 : (k : Int) + 1 < (s.size : Int) := by omega
                      go_wp2_with fail
                      all_goals (go_meet; exact ⟨⟨_, rfl⟩, ⟨_, rfl⟩, ⟨_, rfl⟩, HW1⟩)
                    · have hi1 : ¬ (k : Int) + 1 < (s.size : Int) := by omega
                      go_wp2_with fail
                      all_goals (go_meet; exact ⟨⟨_, rfl⟩, ⟨_, rfl⟩, ⟨_, rfl⟩, HW1⟩)
                case rest =>
                  as_aux_lemma =>
                    obtain ⟨⟨z4c, rfl⟩, ⟨z4d, rfl⟩, ⟨z4v, rfl⟩, HW1⟩ := hcut
                    go_upto_region 17 with fail
                    go_cut [21, 22, 10, 11] (fun c d v e11 wx => (∃ x : Int, c = .int .u8 x) ∧ (∃ x : Int, d = .int .u8 x) ∧ (∃ x : Bool, v = .bool x) ∧ (∃ x : Bool, e11 = .bool x) ∧ Hid (LeftW s w (k + 1) wx))
                    case first =>
                      as_aux_lemma =>
                        go_wp2_with fail
                        all_goals (go_meet; exact ⟨⟨_, rfl⟩, ⟨_, rfl⟩, ⟨_, rfl⟩, ⟨_, rfl⟩, HW1⟩)
                    case rest =>
                      obtain ⟨⟨z5c, rfl⟩, ⟨z5d, rfl⟩, ⟨z5v, rfl⟩, ⟨z5e11, rfl⟩, HW1⟩ := hcut
                      go_upto_region 18 with fail
                      go_cut [21, 22, 10, 12] (fun c d v e12 wx => (∃ x : Int, c = .int .u8 x) ∧ (∃ x : Int, d = .int .u8 x) ∧ (∃ x : Bool, v = .bool x) ∧ (∃ x : Bool, e12 = .bool x) ∧ Hid (LeftW s w (k + 1) wx))
                      case first =>
                        as_aux_lemma =>
                          go_wp2_with fail
                          all_goals (go_meet; exact ⟨⟨_, rfl⟩, ⟨_, rfl⟩, ⟨_, rfl⟩, ⟨_, rfl⟩, HW1⟩)
                      case rest =>
                        obtain ⟨⟨z6c, rfl⟩, ⟨z6d, rfl⟩, ⟨z6v, rfl⟩, ⟨z6e12, rfl⟩, HW1⟩ := hcut
                        go_upto_region 19 with fail
                        go_cut [21, 22, 10, 13] (fun c d v e13 wx => (∃ x : Int, c = .int .u8 x) ∧ (∃ x : Int, d = .int .u8 x) ∧ (∃ x : Bool, v = .bool x) ∧ (∃ x : Bool, e13 = .bool x) ∧ Hid (LeftW s w (k + 1) wx))
                        case first =>
                          as_aux_lemma =>
                            go_wp2_with fail
                            all_goals (go_meet; exact ⟨⟨_, rfl⟩, ⟨_, rfl⟩, ⟨_, rfl⟩, ⟨_, rfl⟩, HW1⟩)
                        case rest =>
                          obtain ⟨⟨z7c, rfl⟩, ⟨z7d, rfl⟩, ⟨z7v, rfl⟩, ⟨z7e13, rfl⟩, HW1⟩ := hcut
                          go_upto_region 20 with fail
                          go_cut [21, 22, 10, 15] (fun c d v e15 wx => (∃ x : Int, c = .int .u8 x) ∧ (∃ x : Int, d = .int .u8 x) ∧ (∃ x : Bool, v = .bool x) ∧ (∃ x : Bool, e15 = .bool x) ∧ Hid (LeftW s w (k + 1) wx))
                          case first =>
                            as_aux_lemma =>
                              go_wp2_with fail
                              all_goals (go_meet; exact ⟨⟨_, rfl⟩, ⟨_, rfl⟩, ⟨_, rfl⟩, ⟨_, rfl⟩, HW1⟩)
                          case rest =>
                            as_aux_lemma =>
                              obtain ⟨⟨z8c, rfl⟩, ⟨z8d, rfl⟩, ⟨z8v, rfl⟩, ⟨z8e15, rfl⟩, HW1⟩ := hcut
                              go_upto_region 21 with fail
                              go_cut [21, 22, 10, 16] (fun c d v e16 wx => (∃ x : Int, c = .int .u8 x) ∧ (∃ x : Int, d = .int .u8 x) ∧ (∃ x : Bool, v = .bool x) ∧ (∃ x : Bool, e16 = .bool x) ∧ Hid (LeftW s w (k + 1) wx))
                              case first =>
                                as_aux_lemma =>
                                  go_wp2_with fail
                                  all_goals (go_meet; exact ⟨⟨_, rfl⟩, ⟨_, rfl⟩, ⟨_, rfl⟩, ⟨_, rfl⟩, HW1⟩)
                              case rest =>
                                obtain ⟨⟨z9c, rfl⟩, ⟨z9d, rfl⟩, ⟨z9v, rfl⟩, ⟨z9e16, rfl⟩, HW1⟩ := hcut
                                go_upto_region 22 with fail
                                go_cut [21, 22, 10, 18] (fun c d v e18 wx => (∃ x : Int, c = .int .u8 x) ∧ (∃ x : Int, d = .int .u8 x) ∧ (∃ x : Bool, v = .bool x) ∧ (∃ x : Bool, e18 = .bool x) ∧ Hid (LeftW s w (k + 1) wx))
                                case first =>
                                  as_aux_lemma =>
                                    go_wp2_with fail
                                    all_goals (go_meet; exact ⟨⟨_, rfl⟩, ⟨_, rfl⟩, ⟨_, rfl⟩, ⟨_, rfl⟩, HW1⟩)
                                case rest =>
                                  obtain ⟨⟨z10c, rfl⟩, ⟨z10d, rfl⟩, ⟨z10v, rfl⟩, ⟨z10e18, rfl⟩, HW1⟩ := hcut
                                  go_upto_region 23 with fail
                                  go_cut [21, 22, 10, 19] (fun c d v e19 wx => (∃ x : Int, c = .int .u8 x) ∧ (∃ x : Int, d = .int .u8 x) ∧ (∃ x : Bool, v = .bool x) ∧ (∃ x : Bool, e19 = .bool x) ∧ Hid (LeftW s w (k + 1) wx))
                                  case first =>
                                    as_aux_lemma =>
                                      go_wp2_with fail
                                      all_goals (go_meet; exact ⟨⟨_, rfl⟩, ⟨_, rfl⟩, ⟨_, rfl⟩, ⟨_, rfl⟩, HW1⟩)
                                  case rest =>
                                    obtain ⟨⟨z11c, rfl⟩, ⟨z11d, rfl⟩, ⟨z11v, rfl⟩, ⟨z11e19, rfl⟩, HW1⟩ := hcut
                                    go_upto_region 24 with fail
                                    go_cut [21, 22, 10, 17] (fun c d v e17 wx => (∃ x : Int, c = .int .u8 x) ∧ (∃ x : Int, d = .int .u8 x) ∧ (∃ x : Bool, v = .bool x) ∧ (∃ x : Bool, e17 = .bool x) ∧ Hid (LeftW s w (k + 1) wx))
                                    case first =>
                                      as_aux_lemma =>
                                        go_wp2_with fail
                                        all_goals (go_meet; exact ⟨⟨_, rfl⟩, ⟨_, rfl⟩, ⟨_, rfl⟩, ⟨_, rfl⟩, HW1⟩)
                                    case rest =>
                                      as_aux_lemma =>
                                        obtain ⟨⟨z12c, rfl⟩, ⟨z12d, rfl⟩, ⟨z12v, rfl⟩, ⟨z12e17, rfl⟩, HW1⟩ := hcut
                                        go_upto_region 26 with fail
                                        go_cut [21, 22, 10, 195] (fun c d v e195 wx => (∃ x : Int, c = .int .u8 x) ∧ (∃ x : Int, d = .int .u8 x) ∧ (∃ x : Bool, v = .bool x) ∧ (∃ x : Bool, e195 = .bool x) ∧ Hid (LeftW s w (k + 1) wx))
                                        case first =>
                                          as_aux_lemma =>
                                            go_wp2_with fail
                                            all_goals (go_meet; exact ⟨⟨_, rfl⟩, ⟨_, rfl⟩, ⟨_, rfl⟩, ⟨_, rfl⟩, HW1⟩)
                                        case rest =>
                                          obtain ⟨⟨z13c, rfl⟩, ⟨z13d, rfl⟩, ⟨z13v, rfl⟩, ⟨z13e195, rfl⟩, HW1⟩ := hcut
                                          go_upto_if 195 with fail
                                          go_cut [21, 22, 10, 9] (fun c d v e9 wx => (∃ x : Int, c = .int .u8 x) ∧ (∃ x : Int, d = .int .u8 x) ∧ (∃ x : Bool, v = .bool x) ∧ (∃ x : Int, e9 = .int .i64 x) ∧ Hid (LeftW s w (k + 1) wx))
                                          case first =>
                                            as_aux_lemma =>
                                              go_wp2_with fail
                                              all_goals (go_meet; exact ⟨⟨_, rfl⟩, ⟨_, rfl⟩, ⟨_, rfl⟩, ⟨_, rfl⟩, HW1⟩)
                                          case rest =>
                                            obtain ⟨⟨z14c, rfl⟩, ⟨z14d, rfl⟩, ⟨z14v, rfl⟩, ⟨z14e9, rfl⟩, HW1⟩ := hcut
                                            go_wp2_with fail
                                            all_goals (go_roundg (s.size - (k + 1)); (case measure => omega); (case rel => exact ⟨k + 1, _, _, _, _, _, _, _, _, _, _, _, _, _, _, by omega, rfl, by go_num, rfl, rfl, rfl, rfl, rfl, rfl, rfl, rfl, rfl, rfl, rfl, rfl, rfl, rfl, HW1⟩))
    · obtain rfl : k = s.size := by omega
      have hb := HW.out.2
      have g112 := HW.out.1.cell 112 _ (hasCells_get s s.size 112 (by omega))
      have g80 := HW.out.1.cell 80 _ (hasCells_get s s.size 80 (by omega))
      have g120 := HW.out.1.cell 120 _ (hasCells_get s s.size 120 (by omega))
      have g88 := HW.out.1.cell 88 _ (hasCells_get s s.size 88 (by omega))
      obtain ⟨a112, h112⟩ : ∃ v, hasc s 112 s.size = v := ⟨_, rfl⟩
      obtain ⟨a80, h80⟩ : ∃ v, hasc s 80 s.size = v := ⟨_, rfl⟩
      obtain ⟨a120, h120⟩ : ∃ v, hasc s 120 s.size = v := ⟨_, rfl⟩
      obtain ⟨a88, h88⟩ : ∃ v, hasc s 88 s.size = v := ⟨_, rfl⟩
      rw [h112] at g112
      rw [h80] at g80
      rw [h120] at g120
      rw [h88] at g88
      have HB := Lib.hid hb
      have H112 := Lib.hid h112
      have H80 := Lib.hid h80
      have H120 := Lib.hid h120
      have H88 := Lib.hid h88
      clear hb h112 h80 h120 h88 HW
      rcases HN.out with h | h
      · subst h
        have HA' := Lib.hid ((leftB_q s).symm.trans HA.out)
        clear g112 g80 g120 g88 HA HN
        unfold qName
        by_cases h0 : s.size = 0
        · have hse : s = ⟨#[]⟩ := by
            obtain ⟨⟨b⟩⟩ := s
            cases b with
            | nil => rfl
            | cons x t => simp [ByteArray.size] at h0
          subst hse
          have ha : ans = false := by rw [← HA'.out]; rfl
          subst ha
          clear HA'
          go_wp2_with fail
          exact bodyPost_ret (v := .bool false) (by simp [results, Tryz.results20, go_sem]) rfl ⟨rfl, HB.out⟩
        · have q1 := isEmpty_no' s (by omega)
          have e0 := by'_get s (s.size - 1) (by omega)
          have ek : ((s.size - 1 : Nat) : Int) = (s.size : Int) - 1 := by omega
          have hi : (s.size : Int) - 1 < (s.size : Int) := by omega
          have hi0 : (0 : Int) ≤ (s.size : Int) - 1 := by omega
          have et : ((s.size : Int) - 1).toNat = s.size - 1 := by omega
          obtain ⟨b, hb⟩ : ∃ b, by' s (s.size - 1) = b := ⟨_, rfl⟩
          rw [hb] at e0
          have ha : ans = (b == 92) := by rw [← HA'.out, hb]; simp [h0]
          subst ha
          clear HA' hb
          go_wp2_with fail
          refine bodyPost_ret (v := .bool ((b : Int) == 92)) (by simp [results, Tryz.results20, go_sem]) rfl ⟨ret_bool ?_, HB.out⟩
          rw [Bool.eq_iff_iff]
          simp
          omega
      · subst h
        have ha : ans = ((a112 || a80) && (a120 || a88)) := by rw [← HA.out, leftB_n, H112.out, H80.out, H120.out, H88.out]
        subst ha
        clear HA H112 H80 H120 H88 HN
        unfold nName
        cases a112 <;> cases a80 <;> cases a120 <;> cases a88
        all_goals
          go_wp2_with fail
          first
            | exact bodyPost_ret (v := .bool false) (by simp [results, Tryz.results20, go_sem]) rfl ⟨rfl, HB.out⟩
            | exact bodyPost_ret (v := .bool true) (by simp [results, Tryz.results20, go_sem]) rfl ⟨rfl, HB.out⟩
end Go.Proofs.YtpjfmfaijcbopaaGreatDoor
