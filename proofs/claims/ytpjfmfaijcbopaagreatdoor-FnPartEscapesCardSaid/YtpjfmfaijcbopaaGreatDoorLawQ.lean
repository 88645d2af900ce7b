/- The law FnQuotedScanned. -/
import Derived.Test.YtpjfmfaijcbopaaGreatDoorSq
import Derived.Test.YtpjfmfaijcbopaaGreatDoorQp
import Derived.Shelf.Unicode.DecodeSlow
namespace Go.Proofs.YtpjfmfaijcbopaaGreatDoor
open Go.RowKit Go.Proofs

/-- What the law's guards let in. -/
structure QIn (s r : ByteArray) : Prop where
  h1 : s.size ≤ 1000
  h2 : r.size ≤ 1000
  row : rowB s = true
  has : hasB s ⟨#[9, 85]⟩ = false
  left : (decide (s.size ≠ 0) && by' s (s.size - 1) == 92) = false
theorem QIn.valid {s r : ByteArray} (h : QIn s r) : Lib.validD s.data.toList = true := by
  obtain ⟨hok, _⟩ := line_of h.row
  unfold okText at hok
  simp at hok
  exact hok.2
theorem size4 (q : UInt8) (s r : ByteArray) : (⟨#[q]⟩ ++ s ++ ⟨#[q]⟩ ++ r).size = s.size + r.size + 2 := by
  rw [ByteArray.size_append, ByteArray.size_append, ByteArray.size_append, show (⟨#[q]⟩ : ByteArray).size = 1 from rfl]; omega

/-- ScanQuoted of a text between double quotes. -/
theorem scanQ_D (s r : ByteArray) (h : QIn s r) (T : Option (List Int)) (hT : dq (runes s) = some T) (hx : T = none → hasB s ⟨#[120, 117, 85]⟩ = false) (w : World) :
    Calls Tryz.prog 28 #[.string (⟨#[34]⟩ ++ s ++ ⟨#[34]⟩ ++ r), .bool false] w (SqEnd 19 (runes s).length T w) := by
  have h1 := h.h1
  have h2 := h.h2
  refine scanQuotedImpl _ false 19 _ T w (fun w => zzQuotedD _ _ T w (by rw [size4]; omega) (fun cap W hR hcap => ?_))
  refine scanDouble _ cap _ _ T W hR hcap (quo_of 34 (by decide) s r h.row h1 h2 h.has) hT (last_rune h.valid h.left) (fun ht j => ?_)
  have := hx ht
  exact ⟨rune_not (c := 120) (by omega) (by omega) (fun i hi => hasB_no this i 0 hi (by decide)) j, rune_not (c := 117) (by omega) (by omega) (fun i hi => hasB_no this i 1 hi (by decide)) j⟩
/-- ScanQuoted of a text between single quotes. -/
theorem scanQ_S (s r : ByteArray) (h : QIn s r) (vals : List Int) (hT : sq (runes s) = some vals) (hr : 0 < r.size → by' r 0 ≠ 39) (w : World) :
    Calls Tryz.prog 28 #[.string (⟨#[39]⟩ ++ s ++ ⟨#[39]⟩ ++ r), .bool true] w (SqEnd 18 (runes s).length (some vals) w) := by
  have h1 := h.h1
  have h2 := h.h2
  refine scanQuotedImpl _ true 18 _ _ w (fun w => zzQuotedS _ _ _ w (by rw [size4]; omega) (fun cap W hR hcap => ?_))
  exact scanSingle _ cap _ _ _ W hR hcap (quo_of 39 (by decide) s r h.row h1 h2 h.has) hT (quo_next 39 (by decide) s r h.valid hr) (by simp)


set_option maxRecDepth 100000 in
set_option maxHeartbeats 16000000 in
theorem lawFnQuotedScanned (s r : ByteArray) (b : Bool) (w : World) (hs : s.size ≤ maxLen) (hr : r.size ≤ maxLen) (hT : Tabs w) :
    Calls Tryz.prog 9 #[.string s, .string r, .bool b] w fun e w' => e = .returned (.bool true) ∧ Below w.heap.size w w' := by
  unfold maxLen at hs hr
  by_cases b1 : s.size ≤ 2147483647
  · have z1 : ¬ ((2147483647 : Int) < (s.size : Int)) := by omega
    by_cases b2 : r.size ≤ 2147483647
    · have z2 : ¬ ((2147483647 : Int) < (r.size : Int)) := by omega
      by_cases b3 : s.size ≤ 1000
      · have z3 : ¬ ((1000 : Int) < (s.size : Int)) := by omega
        by_cases b4 : r.size ≤ 1000
        · have z4 : ¬ ((1000 : Int) < (r.size : Int)) := by omega
          have cR1 := row s w (by unfold maxLen; omega) hT
          have HT := Lib.hid hT
          obtain ⟨a1, ha1⟩ : ∃ x, rowB s = x := ⟨_, rfl⟩
          obtain ⟨a2, ha2⟩ : ∃ x, rowB r = x := ⟨_, rfl⟩
          obtain ⟨a3, ha3⟩ : ∃ x, hasB s ⟨#[9, 85]⟩ = x := ⟨_, rfl⟩
          obtain ⟨a5, ha5⟩ : ∃ x, leftB qName s = x := ⟨_, rfl⟩
          have c2 := Lib.hid (fun w hT => row r w (by unfold maxLen; omega) hT)
          have c3 := Lib.hid (fun w => has s ⟨#[9, 85]⟩ w (by omega) (by decide))
          have c4 := Lib.hid (fun w => slashed s w (by omega))
          have c5 := Lib.hid (fun w => left20 qName s w (by omega) (.inl rfl))
          rw [ha1] at cR1
          rw [ha2] at c2
          rw [ha3] at c3
          rw [ha5] at c5
          have HA1 := Lib.hid ha1
          have HA3 := Lib.hid ha3
          have HA5 := Lib.hid ha5
          clear hT hs hr ha1 ha2 ha3 ha5 b1 b2
          go_enter Tryz.func9, Tryz.ntmps9
          go_wp2_with fail
          refine cR1.mono ?_
          rintro e w1 ⟨rfl, hb1⟩
          clear cR1
          cases a1 with
          | false =>
            go_wp2_with fail
            go_ret
            exact ⟨rfl, hb1⟩
          | true =>
            go_wp2_with fail
            refine (c2.out w1 (Utf8Tabs_below HT.out hb1)).mono ?_
            rintro e w2 ⟨rfl, hb2⟩
            have HB2 : Hid (Below w.heap.size w w2) := Lib.hid (hb1.trans (hb2.mono hb1.size))
            clear hb1 hb2 c2
            cases a2 with
            | false =>
              go_wp2_with fail
              go_ret
              exact ⟨rfl, HB2.out⟩
            | true =>
              go_wp2_with fail
              refine (c3.out w2).mono ?_
              rintro e w3 ⟨rfl, hd3⟩
              have HB3 : Hid (Below w.heap.size w w3) := Lib.hid (HB2.out.trans (hd3.below _))
              clear hd3 c3
              cases a3 with
              | true =>
                go_wp2_with fail
                go_ret
                exact ⟨rfl, HB3.out⟩
              | false =>
                go_wp2_with fail
                refine (c4.out w3).mono ?_
                rintro e w4 ⟨⟨a4, rfl⟩, rfl⟩
                cases a4 with
                | true =>
                  go_wp2_with fail
                  go_ret
                  exact ⟨rfl, HB3.out⟩
                | false =>
                  go_wp2_with fail
                  refine (c5.out w3).mono ?_
                  rintro e w5 ⟨rfl, hb5⟩
                  have HB5 : Hid (Below w.heap.size w w5) := Lib.hid (HB3.out.trans (hb5.mono HB3.out.size))
                  clear hb5 c4 c5
                  cases a5 with
                  | true =>
                    go_wp2_with fail
                    go_ret
                    exact ⟨rfl, HB5.out⟩
                  | false =>
                    have HI : Hid (QIn s r) := Lib.hid ⟨b3, b4, HA1.out, HA3.out, (leftB_q s).symm.trans HA5.out⟩
                    have HT5 : Hid (Tabs w5) := Lib.hid (Utf8Tabs_below HT.out (HB5.out))
                    have hlr := last_rune HI.out.valid HI.out.left
                    have hu : ∀ i, (runes s).getD i 0 ≠ 85 := rune_not (c := 85) (by omega) (by omega) (fun i hi => hasB_no HI.out.has i 1 hi (by decide))
                    have c6 := readDouble s w5 (by unfold maxLen; omega) HT5.out HI.out.row hlr hu
                    have hlen := runes_length s
                    have hconv := fun (w : World) => run_runes_of_string (P := Tryz.prog) w 9 27 21 s Tryz.underlying9 Tryz.underlying27 Tryz.underlying21 (by rw [runesFrom_runes]; simp [i32s]; omega)
                    rw [runesFrom_runes] at hconv
                    have hsz : (i32s (runes s)).toArray.size = (runes s).length := by simp [i32s]
                    rw [hsz] at hconv
                    obtain ⟨R, hRR⟩ : ∃ R, (i32s (runes s)).toArray = R := ⟨_, rfl⟩
                    rw [hRR] at hconv
                    obtain ⟨D, hD⟩ : ∃ D, dq (runes s) = D := ⟨_, rfl⟩
                    rw [hD] at c6
                    have HD := Lib.hid hD
                    have cQD := Lib.hid (fun T h1 h2 => scanQ_D s r HI.out T h1 h2)
                    have cQS := Lib.hid (fun vals h1 h2 => scanQ_S s r HI.out vals h1 h2)
                    have cS := Lib.hid (fun w hT => readSingle s w (by unfold maxLen; omega) hT HI.out.row)
                    obtain ⟨n, hn⟩ : ∃ n, (runes s).length = n := ⟨_, rfl⟩
                    rw [hn] at hconv hlen cQD cQS
                    have hw1 : IntKind.i64.wrap ((n : Int) + 2) = (n : Int) + 2 := IntWalk.i64_in _ (by omega)
                    have hcat : (⟨#[34]⟩ : ByteArray).size = 1 := rfl
                    have hcat2 : (⟨#[39]⟩ : ByteArray).size = 1 := rfl
                    have HC := Lib.hid hconv
                    clear hD hRR hsz hn HA1 HA3 HA5 HB2 HB3 hlr hu HT hconv
                    cases b with
                    | false =>
                      rcases D with _ | _ | vals
                      · have c6' : Calls Tryz.prog 26 #[.string s] w5 fun e w' => e = .returned (.tuple #[.string ⟨#[]⟩, .int .i64 0]) ∧ Below w5.heap.size w5 w' := c6.mono fun e w' h => ⟨h.1, h.2⟩
                        clear c6
                        go_wp2_with fail
                        refine c6'.mono ?_
                        rintro e w6 ⟨rfl, hb6⟩
                        have HB6 : Hid (Below w.heap.size w w6) := Lib.hid (HB5.out.trans (hb6.mono HB5.out.size))
                        clear hb6 c6'
                        go_wp2_with fail
                        go_ret
                        exact ⟨rfl, HB6.out⟩
                      · have c6' : Calls Tryz.prog 26 #[.string s] w5 fun e w' => e = .returned (.tuple #[.string ⟨#[]⟩, .int .i64 1]) ∧ Below w5.heap.size w5 w' := c6.mono fun e w' h => ⟨h.1, h.2⟩
                        obtain ⟨a7, ha7⟩ : ∃ x, hasB s ⟨#[120, 117, 85]⟩ = x := ⟨_, rfl⟩
                        have c7 := Lib.hid (fun w => has s ⟨#[120, 117, 85]⟩ w (by omega) (by decide))
                        rw [ha7] at c7
                        have HA7 := Lib.hid ha7
                        clear c6 ha7
                        go_wp2_with fail
                        refine c6'.mono ?_
                        rintro e w6 ⟨rfl, hb6⟩
                        have HB6 : Hid (Below w.heap.size w w6) := Lib.hid (HB5.out.trans (hb6.mono HB5.out.size))
                        clear hb6 c6'
                        go_wp2_with fail
                        refine (c7.out w6).mono ?_
                        rintro e w7 ⟨rfl, hd7⟩
                        have HB7 : Hid (Below w.heap.size w w7) := Lib.hid (HB6.out.trans (hd7.below _))
                        clear hd7 c7
                        cases a7 with
                        | true =>
                          go_wp2_with fail
                          go_ret
                          exact ⟨rfl, HB7.out⟩
                        | false =>
                          have c8 : ∀ w, Calls Tryz.prog 28 #[.string (⟨#[34]⟩ ++ s ++ ⟨#[34]⟩ ++ r), .bool false] w fun e w' => e = .returned (.tuple #[.agg zeroTok.toArray, .int .i64 0, .bool false]) ∧ Below w.heap.size w w' := fun w =>
                            (cQD.out none HD.out (fun _ => HA7.out) w).mono fun e w' h => ⟨h.2.2 rfl, h.1⟩
                          have C8 := Lib.hid c8
                          clear c8 HD HA7
                          go_wp2_with fail
                          refine (C8.out w7).mono ?_
                          rintro e w8 ⟨rfl, hb8⟩
                          have HB8 : Hid (Below w.heap.size w w8) := Lib.hid (HB7.out.trans (hb8.mono HB7.out.size))
                          have hs8 := HB8.out.size
                          clear hb8 C8
                          unfold zeroTok
                          go_wp2_with fail
                          go_ret
                          exact ⟨rfl, HB8.out.alloc hs8 _⟩
                      · have c6' : Calls Tryz.prog 26 #[.string s] w5 fun e w' => e = .returned (.tuple #[.string (runesBytes vals), .int .i64 2]) ∧ Below w5.heap.size w5 w' := c6.mono fun e w' h => ⟨h.1, h.2⟩
                        have c8 : ∀ w, Calls Tryz.prog 28 #[.string (⟨#[34]⟩ ++ s ++ ⟨#[34]⟩ ++ r), .bool false] w fun e w' => (∃ org a b c d f, e = .returned (.tuple #[.agg (tokOut 19 0 6 (runesBytes vals) org ⟨#[]⟩ a b c d f).toArray, .int .i64 ((n + 2 : Nat) : Int), .bool true])) ∧ Below w.heap.size w w' := fun w =>
                          (cQD.out (some vals) HD.out (fun h => by cases h) w).mono fun e w' h => ⟨h.2.1 vals rfl, h.1⟩
                        have C8 := Lib.hid c8
                        obtain ⟨val, hval⟩ : ∃ v, runesBytes vals = v := ⟨_, rfl⟩
                        rw [hval] at c6' C8
                        clear c6 c8 HD hval
                        go_wp2_with fail
                        refine c6'.mono ?_
                        rintro e w6 ⟨rfl, hb6⟩
                        have HB6 : Hid (Below w.heap.size w w6) := Lib.hid (HB5.out.trans (hb6.mono HB5.out.size))
                        clear hb6 c6'
                        go_wp2_with fail
                        refine (C8.out w6).mono ?_
                        rintro e w8 ⟨⟨org, a, b', c, d, f, rfl⟩, hb8⟩
                        have HB8 : Hid (Below w.heap.size w w8) := Lib.hid (HB6.out.trans (hb8.mono HB6.out.size))
                        have hs8 := HB8.out.size
                        clear hb8 C8
                        unfold tokOut
                        have hconv := HC.out
                        go_wp2_with fail
                        go_ret
                        exact ⟨by simp, ((HB8.out.alloc hs8 _).drew).alloc (by simp; omega) _⟩
                    | true =>
                      obtain ⟨xt, hxt⟩ : ∃ x, rdText D = x := ⟨_, rfl⟩
                      obtain ⟨xw, hxw⟩ : ∃ x, rdWhat D = x := ⟨_, rfl⟩
                      have c6' : Calls Tryz.prog 26 #[.string s] w5 fun e w' => e = .returned (.tuple #[.string xt, .int .i64 xw]) ∧ Below w5.heap.size w5 w' := c6.mono fun e w' h => ⟨by rw [← hxt, ← hxw]; exact h.1, h.2⟩
                      clear c6 hxt hxw HD
                      go_wp2_with fail
                      refine c6'.mono ?_
                      rintro e w6 ⟨rfl, hb6⟩
                      have HB6 : Hid (Below w.heap.size w w6) := Lib.hid (HB5.out.trans (hb6.mono HB5.out.size))
                      have HT6 : Hid (Tabs w6) := Lib.hid (Utf8Tabs_below HT5.out hb6)
                      have c7 := cS.out w6 HT6.out
                      obtain ⟨D2, hD2⟩ : ∃ D, sq (runes s) = D := ⟨_, rfl⟩
                      rw [hD2] at c7
                      have HD2 := Lib.hid hD2
                      clear hb6 c6' hD2
                      rcases D2 with _ | vals
                      · have c7' : Calls Tryz.prog 27 #[.string s] w6 fun e w' => e = .returned (.tuple #[.string ⟨#[]⟩, .int .i64 0]) ∧ Below w6.heap.size w6 w' := c7.mono fun e w' h => ⟨h.1, h.2⟩
                        clear c7
                        go_wp2_with fail
                        refine c7'.mono ?_
                        rintro e w7 ⟨rfl, hb7⟩
                        have HB7 : Hid (Below w.heap.size w w7) := Lib.hid (HB6.out.trans (hb7.mono HB6.out.size))
                        clear hb7 c7'
                        go_wp2_with fail
                        go_ret
                        exact ⟨rfl, HB7.out⟩
                      · have c7' : Calls Tryz.prog 27 #[.string s] w6 fun e w' => e = .returned (.tuple #[.string (runesBytes vals), .int .i64 2]) ∧ Below w6.heap.size w6 w' := c7.mono fun e w' h => ⟨h.1, h.2⟩
                        clear c7
                        go_wp2_with fail
                        refine c7'.mono ?_
                        rintro e w7 ⟨rfl, hb7⟩
                        have HB7 : Hid (Below w.heap.size w w7) := Lib.hid (HB6.out.trans (hb7.mono HB6.out.size))
                        clear hb7 c7'
                        have key : (0 < r.size → by' r 0 ≠ 39) → Hid (∀ w, Calls Tryz.prog 28 #[.string (⟨#[39]⟩ ++ s ++ ⟨#[39]⟩ ++ r), .bool true] w fun e w' => (∃ org a b c d f, e = .returned (.tuple #[.agg (tokOut 18 0 6 (runesBytes vals) org ⟨#[]⟩ a b c d f).toArray, .int .i64 ((n + 2 : Nat) : Int), .bool true])) ∧ Below w.heap.size w w') := fun hr =>
                          Lib.hid (fun w => (cQS.out vals HD2.out hr w).mono fun e w' h => ⟨h.2.1 vals rfl, h.1⟩)
                        obtain ⟨val, hval⟩ : ∃ v, runesBytes vals = v := ⟨_, rfl⟩
                        rw [hval] at key ⊢
                        have hconv := HC.out
                        clear hval HD2
                        rcases Nat.eq_zero_or_pos r.size with h0 | h0
                        · have hre : r = ⟨#[]⟩ := by
                            obtain ⟨⟨l⟩⟩ := r
                            cases l with
                            | nil => rfl
                            | cons x t => simp [ByteArray.size] at h0
                          have C8 := key (fun h => by omega)
                          subst hre
                          clear key h0
                          go_wp2_with fail
                          refine (C8.out w7).mono ?_
                          rintro e w8 ⟨⟨org, a, b', c, d, f, rfl⟩, hb8⟩
                          have HB8 : Hid (Below w.heap.size w w8) := Lib.hid (HB7.out.trans (hb8.mono HB7.out.size))
                          have hs8 := HB8.out.size
                          clear hb8 C8
                          unfold tokOut
                          go_wp2_with fail
                          go_ret
                          exact ⟨by simp, ((HB8.out.alloc hs8 _).drew).alloc (by simp; omega) _⟩
                        · have q1 := isEmpty_no' r h0
                          have q2 : ¬ r.toList = [] := by intro e; rw [e] at q1; cases q1
                          have i0 : (0 : Int) < (r.size : Int) := by omega
                          have e0 := by'_get r 0 h0
                          by_cases h39 : by' r 0 = 39
                          · rw [h39] at e0
                            clear key h39
                            go_wp2_with fail
                            go_ret
                            exact ⟨rfl, HB7.out⟩
                          · have C8 := key (fun _ => h39)
                            obtain ⟨b0, hb0⟩ : ∃ b, by' r 0 = b := ⟨_, rfl⟩
                            rw [hb0] at e0 h39
                            have f0 : ((b0 : Int) == 39) = false := by rw [beq_eq_false_iff_ne]; omega
                            clear key h39 hb0
                            go_wp2_with fail
                            refine (C8.out w7).mono ?_
                            rintro e w8 ⟨⟨org, a, b', c, d, f, rfl⟩, hb8⟩
                            have HB8 : Hid (Below w.heap.size w w8) := Lib.hid (HB7.out.trans (hb8.mono HB7.out.size))
                            have hs8 := HB8.out.size
                            clear hb8 C8
                            unfold tokOut
                            go_wp2_with fail
                            go_ret
                            exact ⟨by simp, ((HB8.out.alloc hs8 _).drew).alloc (by simp; omega) _⟩
        · have z4 : (1000 : Int) < (r.size : Int) := by omega
          clear hT hs hr b1 b2 b3 b4
          go_enter Tryz.func9, Tryz.ntmps9
          go_wp2_with fail
          go_ret
          exact ⟨rfl, Below.refl _ _⟩
      · have z3 : (1000 : Int) < (s.size : Int) := by omega
        clear hT hs hr b1 b2 b3
        go_enter Tryz.func9, Tryz.ntmps9
        go_wp2_with fail
        go_ret
        exact ⟨rfl, Below.refl _ _⟩
    · have z2 : (2147483647 : Int) < (r.size : Int) := by omega
      clear hT hs hr b1 b2
      go_enter Tryz.func9, Tryz.ntmps9
      go_wp2_with fail
      go_ret
      exact ⟨rfl, Below.refl _ _⟩
  · have z1 : (2147483647 : Int) < (s.size : Int) := by omega
    clear hT hs hr b1
    go_enter Tryz.func9, Tryz.ntmps9
    go_wp2_with fail
    go_ret
    exact ⟨rfl, Below.refl _ _⟩
end Go.Proofs.YtpjfmfaijcbopaaGreatDoor
