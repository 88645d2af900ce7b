/- Lemmas and contracts of functions of the program, for the statements of this seat: Spec. -/
import Derived.Test.YtpjfmfaijcbopaaGreatDoorDoc
import Derived.Test.YtpjfmfaijcbopaaGreatDoorShelf
import Derived.Deep.LoopGhost
namespace Go.Proofs.YtpjfmfaijcbopaaGreatDoor
open Go.RowKit Go.Proofs

/-- What both tables of unicode/utf8 hold. -/
def Tabs (w : World) : Prop := Lib.Utf8Tabs (Tryz.laysValid_ren.g 3) (Tryz.laysValid_ren.g 4) w

/-- May a character stand as itself within a scalar? -/
def content (c : Int) : Bool :=
  if c = 9 ∨ (32 ≤ c ∧ c ≤ 126) ∨ (160 ≤ c ∧ c ≤ 55295) then decide (c ≠ 8232 ∧ c ≠ 8233)
  else if 57344 ≤ c ∧ c ≤ 65533 then decide (c ≠ 65279) else decide (65536 ≤ c ∧ c ≤ 1114111)

theorem ret_bool {a b : Bool} (h : a = b) : Ending.returned (.bool a) = .returned (.bool b) := by rw [h]

set_option maxHeartbeats 2000000 in
theorem scContent (c : Int) (w : World) : Calls Tryz.prog 53 #[.int .i32 c] w fun e w' => e = .returned (.bool (content c)) ∧ w = w' := by
  obtain ⟨b, hb⟩ : ∃ b, content c = b := ⟨_, rfl⟩
  rw [hb]
  have HB := Lib.hid hb
  clear hb
  go_enter Tryz.func53, Tryz.ntmps53
  go_wp2
  all_goals go_ret
  all_goals refine ⟨ret_bool ?_, rfl⟩
  all_goals (rw [← HB.out]; clear HB)
  all_goals (try simp only [beq_iff_eq, beq_eq_false_iff_ne, ne_eq] at *)
  all_goals (rw [Bool.eq_iff_iff]; unfold content; repeat' split)
  all_goals (simp; try omega)

/-- May all of a list's members stand within a scalar (or be line feeds, if these are let in)? -/
def allIn (feeds : Bool) (l : List Int) : Bool := l.all fun c => content c || (feeds && c == 10)

theorem allIn_take (feeds : Bool) (l : List Int) (k : Nat) (hk : k < l.length) (h : allIn feeds (l.take k) = true) (hx : (content (l.getD k 0) || (feeds && l.getD k 0 == 10)) = true) :
    allIn feeds (l.take (k + 1)) = true := by
  unfold allIn at *
  rw [List.take_succ_eq_append_getElem hk, List.all_append, h]
  simpa [List.getD, hk] using hx
theorem allIn_not (feeds : Bool) (l : List Int) (k : Nat) (hk : k < l.length) (hx : (content (l.getD k 0) || (feeds && l.getD k 0 == 10)) = false) : allIn feeds l = false := by
  unfold allIn
  rw [List.all_eq_false]
  refine ⟨l[k], List.getElem_mem hk, ?_⟩
  simp only [List.getD, hk, List.getElem?_eq_getElem, Option.getD_some] at hx
  rw [hx]; simp

set_option maxHeartbeats 4000000 in
theorem scAll (rb cap : Nat) (rs : List Int) (feeds : Bool) (w : World)
    (hr : ∀ i, i < rs.length → w.cell? ⟨rb, i, none⟩ = some (.int .i32 (rs.getD i 0))) (hlen : rs.length ≤ 70368744177664) :
    Calls Tryz.prog 30 #[.slice (some ⟨rb, 0, none⟩) rs.length cap, .bool feeds] w fun e w' => e = .returned (.bool (allIn feeds rs)) ∧ w = w' := by
  have HR := Lib.hid hr
  clear hr
  go_enter Tryz.func30, Tryz.ntmps30
  go_wp2
  go_loop [9] (fun i => ∃ k : Nat, k ≤ rs.length ∧ Hid (allIn feeds (rs.take k) = true) ∧ i = .int .i64 k) (fun i => rs.length - (intOf i).toNat)
  case atStart => exact ⟨0, Nat.zero_le _, Lib.hid (by simp [allIn]), rfl⟩
  case round =>
    obtain ⟨k, hk, HA, rfl⟩ := hrel
    by_cases hlt : k < rs.length
    · have hc := HR.out k hlt
      have hno := allIn_not feeds rs k hlt
      have hyes := allIn_take feeds rs k hlt HA.out
      obtain ⟨c, hce⟩ : ∃ c, rs.getD k 0 = c := ⟨_, rfl⟩
      rw [hce] at hc hno hyes
      have cC : ∀ w, Calls Tryz.prog 53 #[.int .i32 c] w fun e w' => e = .returned (.bool (content c)) ∧ w = w' := scContent c
      obtain ⟨b, hb⟩ : ∃ b, content c = b := ⟨_, rfl⟩
      rw [hb] at hno hyes cC
      have CC := Lib.hid cC
      have HN := Lib.hid hno
      have HY := Lib.hid hyes
      clear hce hb cC hno hyes HA HR
      have fin1 : Hid ((b || (feeds && c == 10)) = true → allIn feeds (rs.take (k + 1)) = true) := HY
      cases b with
      | true =>
        have HT : Hid (allIn feeds (rs.take (k + 1)) = true) := HY.out (by simp)
        clear HY HN fin1
        go_wp2_with (go_at_call 53; refine (CC.out _).mono ?_; rintro e w' ⟨rfl, rfl⟩)
        go_round
        case rel => exact ⟨k + 1, by omega, HT, by go_num⟩
        case measure => simp [intOf]; omega
      | false =>
        cases feeds with
        | false =>
          have HF : Hid (allIn false rs = false) := HN.out (by simp)
          clear HY HN fin1
          go_wp2_with (go_at_call 53; refine (CC.out _).mono ?_; rintro e w' ⟨rfl, rfl⟩)
          go_ret
          exact ⟨ret_bool HF.out.symm, rfl⟩
        | true =>
          by_cases h10 : c = 10
          · have HT : Hid (allIn true (rs.take (k + 1)) = true) := HY.out (by simp [h10])
            have e10 : (c == 10) = true := by simpa using h10
            clear HY HN fin1 h10
            go_wp2_with (go_at_call 53; refine (CC.out _).mono ?_; rintro e w' ⟨rfl, rfl⟩)
            go_round
            case rel => exact ⟨k + 1, by omega, HT, by go_num⟩
            case measure => simp [intOf]; omega
          · have HF : Hid (allIn true rs = false) := HN.out (by simp [h10])
            have e10 : (c == 10) = false := by simpa using h10
            clear HY HN fin1 h10
            go_wp2_with (go_at_call 53; refine (CC.out _).mono ?_; rintro e w' ⟨rfl, rfl⟩)
            go_ret
            exact ⟨ret_bool HF.out.symm, rfl⟩
    · have hall : allIn feeds rs = true := by have := HA.out; rwa [List.take_of_length_le (by omega)] at this
      have HL := Lib.hid hall
      clear hall
      go_wp2
      go_ret
      exact ⟨ret_bool HL.out.symm, rfl⟩

/-- What scRunes leaves of a text that it takes. -/
def Taken (B : Nat) (s : ByteArray) (v : Value) (w' : World) : Prop :=
  ∃ rb cap, B ≤ rb ∧ v = .slice (some ⟨rb, 0, none⟩) (runes s).length cap ∧ Blk w' rb (i32s (runes s) ++ List.replicate (cap - (runes s).length) (.int .i32 0)) 21 ∧ (runes s).length ≤ cap
theorem taken_rune {s : ByteArray} {w' : World} {rb cap : Nat} (h : Blk w' rb (i32s (runes s) ++ List.replicate (cap - (runes s).length) (.int .i32 0)) 21) (i : Nat) (hi : i < (runes s).length) :
    w'.cell? ⟨rb, i, none⟩ = some (.int .i32 ((runes s).getD i 0)) := by
  refine h.cell i _ ?_
  rw [List.getElem?_append_left (by simpa [i32s] using hi)]
  simp [i32s, hi]

def okText (s : ByteArray) : Bool := decide (s.size ≤ 65536) && Lib.validD s.data.toList

/-- What scRunes answers. -/
def RunesEnd (s : ByteArray) (w : World) (e : Ending) (w' : World) : Prop :=
  ∃ v, e = .returned (.tuple #[v, .bool (okText s)]) ∧ Below w.heap.size w w' ∧ (okText s = true → Taken w.heap.size s v w') ∧ (okText s = false → v = .slice none 0 0)

theorem RunesEnd.no {s : ByteArray} {w w' : World} (h : okText s = false) (hb : Below w.heap.size w w') : RunesEnd s w (.returned (.tuple #[.slice none 0 0, .bool false])) w' :=
  ⟨_, by rw [h], hb, fun h' => (by rw [h] at h'; cases h'), fun _ => rfl⟩
theorem RunesEnd.yes {s : ByteArray} {w w' : World} {v : Value} (h : okText s = true) (hb : Below w.heap.size w w') (ht : Taken w.heap.size s v w') : RunesEnd s w (.returned (.tuple #[v, .bool true])) w' :=
  ⟨_, by rw [h], hb, fun _ => ht, fun h' => (by rw [h] at h'; cases h')⟩

set_option maxHeartbeats 4000000 in
theorem scRunes (s : ByteArray) (w : World) (hs : s.size ≤ maxLen) (hT : Tabs w) : Calls Tryz.prog 29 #[.string s] w (RunesEnd s w) := by
  unfold maxLen at hs
  have cV := Tryz.utf8_ValidString s w hs hT
  by_cases h1 : s.size ≤ 65536
  · have hlen := runes_length s
    have hr : (Conv.runesFrom s s.size 0 #[]).size ≤ 70368744177664 := by rw [runesFrom_runes]; simp [i32s]; omega
    have hconv := fun (w : World) => run_runes_of_string (P := Tryz.prog) w 9 27 21 s Tryz.underlying9 Tryz.underlying27 Tryz.underlying21 hr
    rw [runesFrom_runes] at hconv
    have hsz : (i32s (runes s)).toArray.size = (runes s).length := by simp [i32s]
    rw [hsz] at hconv
    clear hr hsz hT
    obtain ⟨V, hV⟩ : ∃ V, Lib.validD s.data.toList = V := ⟨_, rfl⟩
    have hok : okText s = V := by unfold okText; rw [hV]; simp [h1]
    rw [hV] at cV
    have HOK := Lib.hid hok
    clear hok hV
    cases V with
    | true =>
      obtain ⟨n, hn⟩ : ∃ n, (runes s).length = n := ⟨_, rfl⟩
      obtain ⟨R, hR⟩ : ∃ R, (i32s (runes s)).toArray = R := ⟨_, rfl⟩
      rw [hn, hR] at hconv
      have HN := Lib.hid hn
      have HR := Lib.hid hR
      clear hn hR hlen
      go_enter Tryz.func29, Tryz.ntmps29
      go_wp2_with (go_at_call 52; refine cV.mono ?_; rintro e w1 ⟨rfl, hb⟩)
      refine bodyPost_ret (v := .tuple #[.slice (some ⟨w1.heap.size, 0, none⟩) n (grownCap w1 n 0 21), .bool true]) (by simp [results, Tryz.results29, go_sem]) rfl ?_
      have hsz := hb.size
      refine RunesEnd.yes HOK.out ((hb.alloc hsz _).drew) ⟨w1.heap.size, grownCap w1 n 0 21, hsz, by rw [HN.out], ?_, by rw [HN.out]; exact grownCap_ge _ _ _ _⟩
      rw [HN.out, ← HR.out]
      have := (Blk.new w1 (i32s (runes s) ++ List.replicate (grownCap w1 n 0 21 - n) (.int .i32 0)) 21).drew
      simpa only [← List.append_toArray, List.toArray_replicate] using this
    | false =>
      clear hconv
      go_enter Tryz.func29, Tryz.ntmps29
      go_wp2_with (go_at_call 52; refine cV.mono ?_; rintro e w1 ⟨rfl, hb⟩)
      go_ret2
      exact RunesEnd.no HOK.out hb
  · have hok : okText s = false := by unfold okText; simp [h1]
    have HOK := Lib.hid hok
    clear hok cV
    go_enter Tryz.func29, Tryz.ntmps29
    go_wp2
    go_ret2
    exact RunesEnd.no HOK.out (Below.refl _ _)

/-- spec.Row, spec.Rows. -/
def rowB (s : ByteArray) : Bool := okText s && allIn false (runes s)
def rowsB (s : ByteArray) : Bool := okText s && allIn true (runes s)

set_option maxHeartbeats 4000000 in
theorem row (s : ByteArray) (w : World) (hs : s.size ≤ maxLen) (hT : Tabs w) : Calls Tryz.prog 15 #[.string s] w fun e w' => e = .returned (.bool (rowB s)) ∧ Below w.heap.size w w' := by
  have cR := scRunes s w hs hT
  cases hok : okText s with
  | false =>
    have hrow : rowB s = false := by unfold rowB; rw [hok]; rfl
    rw [hrow]
    have HOK := Lib.hid hok
    clear hok hrow hs hT
    go_enter Tryz.func15, Tryz.ntmps15
    go_wp2_with fail
    refine cR.mono ?_
    rintro e w' ⟨v, rfl, hb, _, hv⟩
    rw [hv HOK.out, HOK.out]
    go_wp2
    go_ret
    exact ⟨rfl, hb⟩
  | true =>
    have hrow : rowB s = allIn false (runes s) := by unfold rowB; rw [hok]; rfl
    rw [hrow]
    have hlen : (runes s).length ≤ 70368744177664 := by
      have := runes_length s
      have h2 : s.size ≤ 65536 := by unfold okText at hok; simp at hok; exact hok.1
      omega
    have HOK := Lib.hid hok
    obtain ⟨b, hb2⟩ : ∃ b, allIn false (runes s) = b := ⟨_, rfl⟩
    have KEY : Hid (∀ (rb cap : Nat) (w' : World), (∀ i, i < (runes s).length → w'.cell? ⟨rb, i, none⟩ = some (.int .i32 ((runes s).getD i 0))) →
        Calls Tryz.prog 30 #[.slice (some ⟨rb, 0, none⟩) (runes s).length cap, .bool false] w' fun e w'' => e = .returned (.bool b) ∧ w' = w'') := by
      rw [← hb2]; exact fun rb cap w' h => scAll rb cap (runes s) false w' h hlen
    rw [hb2]
    clear hok hrow hs hT hb2
    go_enter Tryz.func15, Tryz.ntmps15
    go_wp2_with fail
    refine cR.mono ?_
    rintro e w' ⟨v, rfl, hb, ht, _⟩
    obtain ⟨rb, cap, _, hv, hblk, _⟩ := ht HOK.out
    rw [hv, HOK.out]
    have cA := KEY.out rb cap w' (taken_rune hblk)
    clear hblk
    go_wp2_with (go_at_call 30; refine cA.mono ?_; rintro e w' ⟨rfl, rfl⟩)
    go_ret
    exact ⟨rfl, hb⟩

set_option maxHeartbeats 4000000 in
theorem rows (s : ByteArray) (w : World) (hs : s.size ≤ maxLen) (hT : Tabs w) : Calls Tryz.prog 12 #[.string s] w fun e w' => e = .returned (.bool (rowsB s)) ∧ Below w.heap.size w w' := by
  have cR := scRunes s w hs hT
  cases hok : okText s with
  | false =>
    have hrow : rowsB s = false := by unfold rowsB; rw [hok]; rfl
    rw [hrow]
    have HOK := Lib.hid hok
    clear hok hrow hs hT
    go_enter Tryz.func12, Tryz.ntmps12
    go_wp2_with fail
    refine cR.mono ?_
    rintro e w' ⟨v, rfl, hb, _, hv⟩
    rw [hv HOK.out, HOK.out]
    go_wp2
    go_ret
    exact ⟨rfl, hb⟩
  | true =>
    have hrow : rowsB s = allIn true (runes s) := by unfold rowsB; rw [hok]; rfl
    rw [hrow]
    have hlen : (runes s).length ≤ 70368744177664 := by
      have := runes_length s
      have h2 : s.size ≤ 65536 := by unfold okText at hok; simp at hok; exact hok.1
      omega
    have HOK := Lib.hid hok
    obtain ⟨b, hb2⟩ : ∃ b, allIn true (runes s) = b := ⟨_, rfl⟩
    have KEY : Hid (∀ (rb cap : Nat) (w' : World), (∀ i, i < (runes s).length → w'.cell? ⟨rb, i, none⟩ = some (.int .i32 ((runes s).getD i 0))) →
        Calls Tryz.prog 30 #[.slice (some ⟨rb, 0, none⟩) (runes s).length cap, .bool true] w' fun e w'' => e = .returned (.bool b) ∧ w' = w'') := by
      rw [← hb2]; exact fun rb cap w' h => scAll rb cap (runes s) true w' h hlen
    rw [hb2]
    clear hok hrow hs hT hb2
    go_enter Tryz.func12, Tryz.ntmps12
    go_wp2_with fail
    refine cR.mono ?_
    rintro e w' ⟨v, rfl, hb, ht, _⟩
    obtain ⟨rb, cap, _, hv, hblk, _⟩ := ht HOK.out
    rw [hv, HOK.out]
    have cA := KEY.out rb cap w' (taken_rune hblk)
    clear hblk
    go_wp2_with (go_at_call 30; refine cA.mono ?_; rintro e w' ⟨rfl, rfl⟩)
    go_ret
    exact ⟨rfl, hb⟩
end Go.Proofs.YtpjfmfaijcbopaaGreatDoor
