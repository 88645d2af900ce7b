/- The law FnPartPrinted. -/
import Derived.Test.YtpjfmfaijcbopaaGreatDoorPrtC
import Derived.Test.YtpjfmfaijcbopaaGreatDoorPlain
namespace Go.Proofs.YtpjfmfaijcbopaaGreatDoor
open Go.RowKit

theorem enc_no10 (c : Int) (h : c ≠ 10) : ∀ b ∈ Lib.encodeRune c, b.toNat ≠ 10 := by
  intro b hb
  unfold Lib.encodeRune at hb
  obtain ⟨x, hx, rfl⟩ := List.mem_map.1 hb
  have hx2 : (x = c ∧ 0 ≤ c ∧ c ≤ 127) ∨ (128 ≤ x ∧ x ≤ 255) := by
    unfold Lib.encodeRuneZ at hx
    split at hx
    · left
      simp at hx
      omega
    · right
      split at hx
      · simp at hx; omega
      · split at hx
        · simp at hx; omega
        · split at hx
          · simp at hx; omega
          · simp at hx; omega
  have e : (x.toNat.toUInt8).toNat = x.toNat % 256 := rfl
  rw [e]
  omega

/-- A row holds no line feed. -/
theorem row_no10 (s : ByteArray) (h : rowB s = true) : ∀ i, i < s.size → by' s i ≠ 10 := by
  unfold rowB okText at h
  simp only [Bool.and_eq_true, decide_eq_true_eq] at h
  obtain ⟨⟨_, hv⟩, ha⟩ := h
  intro i hi
  have hil : i < s.data.toList.length := by simpa using hi
  have hm : s.data.toList[i] ∈ s.data.toList := List.getElem_mem hil
  have hb := rl_back _ s.data.toList (Nat.le_refl _) hv
  rw [← runes_rl] at hb
  have hm2 : s.data.toList[i] ∈ (runes s).flatMap Lib.encodeRune := by rw [hb]; exact hm
  obtain ⟨c, hc, hbc⟩ := List.mem_flatMap.1 hm2
  unfold allIn at ha
  have hcc := List.all_eq_true.1 ha c hc
  simp at hcc
  have := enc_no10 c (by rintro rfl; revert hcc; decide) _ hbc
  unfold by'
  rw [List.getD, List.getElem?_eq_getElem hil]
  exact this
theorem row_size (s : ByteArray) (h : rowB s = true) : s.size ≤ 65536 := by
  unfold rowB okText at h
  simp only [Bool.and_eq_true, decide_eq_true_eq] at h
  exact h.1.1

set_option maxHeartbeats 4000000 in
theorem fitsAny (a : Addr) (n c : Nat) (o : Nat → ByteArray) (w : World) (hn : n ≤ 9223372036854775807) (hcell : ∀ i, i < n → w.cell? (a.add i) = some (.string (o i))) :
    Calls Tryz.prog 17 #[.slice (some a) n c] w fun e w' => (∃ b, e = .returned (.bool b)) ∧ w = w' := by
  have HC := Lib.hid hcell
  clear hcell
  by_cases hbig : n ≤ 2147483647
  · have z : ¬ ((2147483647 : Int) < (n : Int)) := by omega
    go_enter Tryz.func17, Tryz.ntmps17
    go_wp2_with fail
    go_loopw [10] (fun i wr => ∃ k : Nat, k ≤ n ∧ i = .int .i64 k ∧ w = wr) (fun i _ => n - (intOf i).toNat)
    case atStart => exact ⟨0, Nat.zero_le _, rfl, rfl⟩
    case round =>
      obtain ⟨k, hk, rfl, rfl⟩ := hrel
      by_cases hlt : k < n
      · have hc := HC.out k hlt
        obtain ⟨s, hs⟩ : ∃ s, o k = s := ⟨_, rfl⟩
        rw [hs] at hc
        by_cases hsz : s.size ≤ 2147483647
        · have z2 : ¬ ((2147483647 : Int) < (s.size : Int)) := by omega
          go_wp2
          go_roundw
          case rel => exact ⟨k + 1, by omega, by go_num, trivial⟩
          case measure => simp [intOf]; omega
        · have z2 : (2147483647 : Int) < (s.size : Int) := by omega
          go_wp2
          go_ret
          exact ⟨⟨_, rfl⟩, rfl⟩
      · go_wp2
        go_ret
        exact ⟨⟨_, rfl⟩, rfl⟩
  · have z : (2147483647 : Int) < (n : Int) := by omega
    go_enter Tryz.func17, Tryz.ntmps17
    go_wp2_with fail
    go_ret
    exact ⟨⟨_, rfl⟩, rfl⟩

/-- The rows of the first n strings. -/
def rowsOf (o : Nat → ByteArray) : Nat → List Value
  | 0 => []
  | n + 1 => rowsOf o n ++ rowOf n (o n)
theorem rowOf_length (i : Nat) (s : ByteArray) : (rowOf i s).length = 13 := rfl
theorem rowsOf_length (o : Nat → ByteArray) : ∀ n, (rowsOf o n).length = n * 13
  | 0 => rfl
  | n + 1 => by
    unfold rowsOf
    rw [List.length_append, rowsOf_length o n, rowOf_length]
    omega
theorem rowsOf_get (o : Nat → ByteArray) (j r : Nat) (u : Value) (hu : (rowOf j (o j))[r]? = some u) : ∀ n, j < n → (rowsOf o n)[j * 13 + r]? = some u
  | 0, h => by omega
  | n + 1, h => by
    have hr : r < 13 := by
      have := (List.getElem?_eq_some_iff.1 hu).1
      rw [rowOf_length] at this
      exact this
    unfold rowsOf
    by_cases hjn : j < n
    · rw [List.getElem?_append_left (by rw [rowsOf_length]; omega)]
      exact rowsOf_get o j r u hu n hjn
    · obtain rfl : j = n := by omega
      rw [List.getElem?_append_right (by rw [rowsOf_length]; omega), rowsOf_length, Nat.add_sub_cancel_left]
      exact hu

attribute [-go_sem] Instr.build
set_option maxRecDepth 100000 in
set_option maxHeartbeats 8000000 in
theorem lawFnPartPrintedAt (a : Addr) (n c : Nat) (o : Nat → ByteArray) (w : World) (hn : n ≤ 9223372036854775807) (hcell : ∀ i, i < n → w.cell? (a.add i) = some (.string (o i))) (hsz : ∀ i, i < n → (o i).size ≤ maxLen) (hT : Tabs w) :
    Calls Tryz.prog 6 #[.slice (some a) n c] w fun e w' => e = .returned (.bool true) ∧ Below w.heap.size w w' := by
  obtain ⟨i0, hi, hz0, hz1, hz2⟩ := info_parts Tinfo31
  have HF := Lib.hid (fitsAny a n c o w hn hcell)
  have HC := Lib.hid hcell
  have HSZ := Lib.hid hsz
  have HTT := Lib.hid hT
  clear hcell hsz hT
  by_cases hbig : n ≤ 100
  · have z : ¬ ((100 : Int) < (n : Int)) := by omega
    go_enter Tryz.func6, Tryz.ntmps6
    go_wp2_with fail
    refine HF.out.mono ?_
    rintro e w' ⟨⟨b, rfl⟩, rfl⟩
    cases b with
    | false =>
      go_wp2_with fail
      go_ret
      exact ⟨rfl, Below.refl _ _⟩
    | true =>
      go_wp2_with fail
      go_loopw [15, 3, 4] (fun i l t wr => ∃ k : Nat, k ≤ n ∧ i = .int .i64 k ∧ wr.ownsRow w.heap.size 31 13 l k (rowsOf o k) ∧ t = .string (cat o k) ∧ Below w.heap.size w wr ∧ Hid (∀ j, j < k → rowB (o j) = true) ∧ (k = 0 → l = .slice none 0 0)) (fun i _ _ _ => n - (intOf i).toNat)
      case atStart => exact ⟨0, Nat.zero_le _, rfl, World.ownsRow_nil _ _ _ _, rfl, Below.refl _ _, Lib.hid (fun j hj => by omega), fun _ => rfl⟩
      case round =>
        obtain ⟨k, hk, rfl, hown, rfl, hb, HR, hnil⟩ := hrel
        by_cases hkn : k < n
        · have hc := (Kept.of_below (S := fun _ => False) hb).cell (HC.out k hkn) (fun h => h)
          have hs0 := HSZ.out k hkn
          have cR := row (o k) wr hs0 (Utf8Tabs_below HTT.out hb)
          have hcs := cat_size o k (fun j hj => row_size _ (HR.out j hj))
          have hcs3 : (cat o k).size ≤ 6553600 := by omega
          have hcs2 : ¬ 9223372036854775807 < (cat o k).size := by omega
          clear hnil
          obtain ⟨s, hs⟩ : ∃ s, o k = s := ⟨_, rfl⟩
          rw [hs] at hc cR
          have HS := Lib.hid hs
          have HO := Lib.hid hown
          have HB := Lib.hid hb
          cases hrow : rowB s with
          | false =>
            rw [hrow] at cR
            have CR := Lib.hid cR
            clear cR hs hown hb hrow hcs hs0
            go_wp2_with (first | (go_at_call 15; refine CR.out.mono ?_; rintro e w1 ⟨rfl, hb1⟩) | fail)
            go_ret
            exact ⟨rfl, HB.out.trans (hb1.mono HB.out.size)⟩
          | true =>
            rw [hrow] at cR
            have CR := Lib.hid cR
            have hss := row_size s hrow
            have HRK : Hid (∀ j, j < k + 1 → rowB (o j) = true) := Lib.hid (fun j hj => by
              by_cases e : j = k
              · subst e; rw [hs]; exact hrow
              · exact HR.out j (by omega))
            clear cR hs hown hb hrow hcs hs0
            have hw1 : IntKind.i64.wrap ((k : Int) + 1) = (k : Int) + 1 := IntWalk.i64_in _ (by omega)
            have hbuild : ∀ w : World, (Instr.build 29 #[(0, .int .i64 1), (1, .int .i64 ((k : Int) + 1))]).run Tryz.prog w = .ok (.agg #[.int .i64 1, .int .i64 ((k : Int) + 1), .int .i64 0, .int .i64 0, .int .i64 0]) w := fun w => run_build (P := Tryz.prog) w 29 _ _ (by kernel_rfl)
            have CM : Hid (∀ w, Calls Tryz.prog 18 #[.int .i64 31, .string s, .string s, .agg #[.int .i64 1, .int .i64 ((k : Int) + 1), .int .i64 0, .int .i64 0, .int .i64 0]] w fun e w' => e = .returned (.agg #[.int .i64 31, .int .i64 2, .int .i64 0, .string s, .string s, .string ⟨#[]⟩, .int .i64 1, .int .i64 ((k : Int) + 1), .int .i64 0, .int .i64 0, .int .i64 0, .int .i64 (-1), .int .i64 (-1)]) ∧ Below w.heap.size w w') :=
              Lib.hid (fun w => make18 s 1 ((k : Int) + 1) 0 0 0 w (by omega) (by omega) (by omega) (by omega))
            go_wp2_with fail
            refine CR.out.mono ?_
            rintro e w1 ⟨rfl, hb1⟩
            have hown1 := (Kept.of_below (S := fun _ => False) hb1).owns HO.out (fun _ _ h => h)
            have HO1 := Lib.hid hown1
            have HB1 := Lib.hid (HB.out.trans (hb1.mono HB.out.size))
            clear hown1 hb1 CR HO HB
            go_wp2_with fail
            refine (CM.out _).mono ?_
            rintro e w2 ⟨rfl, hb2⟩
            have hown2 := (Kept.of_below (S := fun _ => False) hb2).owns HO1.out (fun _ _ h => h)
            have hsz2 : w.heap.size ≤ w2.heap.size := Nat.le_trans HB1.out.size hb2.size
            have HO2 := Lib.hid hown2
            have HB2 := Lib.hid (HB1.out.trans (hb2.mono HB1.out.size))
            clear hown2 hb2 CM HO1 HB1
            go_wp2_with (at_builtin; refine wpList_append_lies _ rfl (.tmp 23) (.tmp 30) 24 rfl w.heap.size 31 i0 _ 13 128 Tryz.underlying24 hi hz0 hz1 hz2 rfl (by omega) u3 k (rowsOf o k) rfl (HO2.out.alloc _) ⟨w2.heap.size, 0, none⟩ 1 1 (rowOf k s) rfl rfl (World.news_of_block (cs := (rowOf k s).toArray) (t := 31) (fr := (0, 0)) (heap_alloc_new w2 _)) (by simp [rowOf, tokOut, Value.oneCell']) (by omega) (by unfold maxLen; omega) (by omega) (by simp; omega) (w2.heap.size + 1) (by simp) ?_)
            intro gg cap w3 hown hgrow hat hlt
            have hk3 : Kept (fun i => w.heap.size ≤ i) w2 w3 := ((Kept.refl _ _).alloc _).grown hgrow (fun i hi => (HO2.out.lt i hi).1)
            have HB3 := Lib.hid (HB2.out.trans (hk3.below (B := w.heap.size) hsz2 (fun i hi => by omega)))
            have HO3 := Lib.hid hown
            have hcat : ¬ 9223372036854775807 < (cat o k).size + s.size := by omega
            clear hown hgrow hat hlt hk3
            go_wp2_with fail
            go_roundw
            case rel =>
              have e1 : cat o k ++ s = cat o (k + 1) := by
                show _ = cat o k ++ o k
                rw [HS.out]
              have e2 : rowsOf o k ++ rowOf k s = rowsOf o (k + 1) := by
                show _ = rowsOf o k ++ rowOf k (o k)
                rw [HS.out]
              exact ⟨k + 1, by omega, by go_num, e2 ▸ HO3.out, by rw [e1], HB3.out, HRK, fun h => by omega⟩
            case measure => simp [intOf]; omega
        · obtain rfl : k = n := by omega
          have HO := Lib.hid hown
          have HB := Lib.hid hb
          have hno : ∀ j, j < k → ∀ i, i < (o j).size → by' (o j) i ≠ 10 := fun j hj => row_no10 _ (HR.out j hj)
          have hsz : ∀ j, j < k → (o j).size ≤ 65536 := fun j hj => row_size _ (HR.out j hj)
          have hP : Calls Tryz.prog 19 #[u3, .bool false] wr fun e w' => e = .returned (.string (cat o k)) ∧ Below wr.heap.size wr w' := by
            rcases Nat.eq_zero_or_pos k with h0 | h0
            · subst h0
              rw [hnil rfl]
              exact printNone wr
            · obtain ⟨g, cap, rfl, _, _⟩ := hown.form h0
              refine printImpl k g cap o wr h0 hbig (by rcases hown.2 with ⟨h, _⟩ | ⟨g', cap', cur, he, _, _, hle, _⟩; (cases h); (cases he; exact hle)) (fun j hj r u hu => ?_) hno hsz
              have hg2 := rowsOf_get o j r u hu k hj
              rw [hown.cellAt _ (by have := (List.getElem?_eq_some_iff.1 hg2).1; rw [rowsOf_length] at this; exact this)]
              exact hg2
          have HP := Lib.hid hP
          clear hP hno hsz hown hb hnil
          go_wp2_with (first | (go_at_call 19; refine HP.out.mono ?_; rintro e w' ⟨rfl, hb2⟩) | fail)
          go_ret
          exact ⟨by simp, HB.out.trans (hb2.mono HB.out.size)⟩
  · have z : (100 : Int) < (n : Int) := by omega
    go_enter Tryz.func6, Tryz.ntmps6
    go_wp2_with fail
    refine HF.out.mono ?_
    rintro e w' ⟨⟨b, rfl⟩, rfl⟩
    cases b with
    | false =>
      go_wp2_with fail
      go_ret
      exact ⟨rfl, Below.refl _ _⟩
    | true =>
      go_wp2_with fail
      go_ret
      exact ⟨rfl, Below.refl _ _⟩

set_option maxHeartbeats 4000000 in
theorem fitsNone (w : World) : Calls Tryz.prog 17 #[.slice none 0 0] w fun e w' => e = .returned (.bool true) ∧ w = w' := by
  go_enter Tryz.func17, Tryz.ntmps17
  go_wp2_with fail
  refine wp_loop_rounds 1 ?_
  rw [rounds_succ]
  go_wp2_with fail
  go_ret
  exact ⟨rfl, rfl⟩

set_option maxRecDepth 100000 in
set_option maxHeartbeats 8000000 in
theorem lawFnPartPrintedNone (w : World) : Calls Tryz.prog 6 #[.slice none 0 0] w fun e w' => e = .returned (.bool true) ∧ Below w.heap.size w w' := by
  go_enter Tryz.func6, Tryz.ntmps6
  go_wp2_with (first | (go_at_call 17; refine (fitsNone _).mono ?_; rintro e w' ⟨rfl, rfl⟩) | fail)
  refine wp_loop_rounds 1 ?_
  rw [rounds_succ]
  go_wp2_with (first | (go_at_call 19; refine (printNone _).mono ?_; rintro e w1 ⟨rfl, hb⟩) | fail)
  go_ret
  exact ⟨rfl, hb⟩
end Go.Proofs.YtpjfmfaijcbopaaGreatDoor
