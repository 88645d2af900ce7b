/- spec.Slashed, ReadDouble and ReadSingle over a text of one line. -/
import Derived.Test.YtpjfmfaijcbopaaGreatDoorEsc
namespace Go.Proofs.YtpjfmfaijcbopaaGreatDoor
open Go.RowKit Go.Proofs

/-- What a reader that has come to the place j has yet to read. -/
def RdRel (rs : List Int) (j : Nat) (wr : Bool) (acc : List Int) : Prop := dq rs = (dq (rs.drop j)).map (fun r => if wr then none else r.map (acc ++ ·))
theorem RdRel.start (rs : List Int) : RdRel rs 0 false [] := by
  unfold RdRel
  rw [List.drop_zero]
  cases dq rs with
  | none => rfl
  | some r => cases r <;> simp
theorem RdRel.plain {rs : List Int} {j : Nat} {wr : Bool} {acc : List Int} (h : RdRel rs j wr acc) (hj : j < rs.length) (h1 : rs.getD j 0 ≠ 92) (h2 : rs.getD j 0 ≠ 34) : RdRel rs (j + 1) wr (acc ++ [rs.getD j 0]) := by
  unfold RdRel at *
  rw [h, drop_at rs j hj, dq_plain _ _ h1 h2]
  cases dq (rs.drop (j + 1)) with
  | none => rfl
  | some r => cases r <;> cases wr <;> simp
theorem RdRel.quote {rs : List Int} {j : Nat} {wr : Bool} {acc : List Int} (h : RdRel rs j wr acc) (hj : j < rs.length) (h1 : rs.getD j 0 = 34) : dq rs = none := by
  unfold RdRel at h
  rw [h, drop_at rs j hj, h1, dq_quote]; rfl
theorem RdRel.slash {rs : List Int} {j : Nat} {wr : Bool} {acc : List Int} (h : RdRel rs j wr acc) (hj : j + 1 < rs.length) (h1 : rs.getD j 0 = 92) (h2 : rs.getD (j + 1) 0 = 47 ∨ rs.getD (j + 1) 0 = 39) : dq rs = none := by
  unfold RdRel at h
  rw [h, drop_at rs j (by omega), drop_at rs (j + 1) hj, h1, dq_slash _ _ h2]; rfl
theorem RdRel.wrong {rs : List Int} {j : Nat} {wr : Bool} {acc : List Int} (h : RdRel rs j wr acc) (hj : j + 1 < rs.length) (h1 : rs.getD j 0 = 92) (h2 : ¬ (rs.getD (j + 1) 0 = 47 ∨ rs.getD (j + 1) 0 = 39))
    (he : esc (rs.drop (j + 1)) = none) (acc' : List Int) : RdRel rs (j + 2) true acc' := by
  unfold RdRel at *
  rw [drop_at rs (j + 1) hj] at he
  rw [h, drop_at rs j (by omega), drop_at rs (j + 1) hj, h1, dq_wrong _ _ h2 he]
  cases dq (rs.drop (j + 1 + 1)) with
  | none => rfl
  | some r => cases r <;> cases wr <;> simp
theorem RdRel.esc {rs : List Int} {j : Nat} {wr : Bool} {acc : List Int} {v : Int} {k : Nat} (h : RdRel rs j wr acc) (hj : j + 1 < rs.length) (h1 : rs.getD j 0 = 92) (h2 : ¬ (rs.getD (j + 1) 0 = 47 ∨ rs.getD (j + 1) 0 = 39))
    (he : esc (rs.drop (j + 1)) = some (v, k)) : RdRel rs (j + 1 + k) wr (acc ++ [v]) := by
  unfold RdRel at *
  rw [drop_at rs (j + 1) hj] at he
  rw [h, drop_at rs j (by omega), drop_at rs (j + 1) hj, h1, dq_esc _ _ _ _ h2 he, ← drop_at rs (j + 1) hj, List.drop_drop]
  cases dq (rs.drop (j + 1 + k)) with
  | none => rfl
  | some r => cases r <;> cases wr <;> simp
theorem RdRel.fin {rs : List Int} {j : Nat} {wr : Bool} {acc : List Int} (h : RdRel rs j wr acc) (hj : rs.length ≤ j) : dq rs = some (if wr then none else some acc) := by
  unfold RdRel at h
  rw [h, List.drop_eq_nil_of_le hj, dq_nil]
  cases wr <;> simp
theorem esc_le {rs : List Int} {j : Nat} {v : Int} {k : Nat} (hj : j + 1 < rs.length) (he : esc (rs.drop (j + 1)) = some (v, k)) : 1 ≤ k ∧ j + 1 + k ≤ rs.length := by
  have hl : (rs.drop (j + 1)).length = rs.length - (j + 1) := List.length_drop
  rw [drop_at rs (j + 1) hj] at he hl
  have := esc_width he
  omega

def rdText : Option (Option (List Int)) → ByteArray
  | some (some l) => runesBytes l
  | _ => ⟨#[]⟩
def rdWhat : Option (Option (List Int)) → Int
  | none => 0
  | some none => 1
  | some (some _) => 2
/-- What ReadDouble and ReadSingle answer. -/
def RdEnd (r : Option (Option (List Int))) (e : Ending) : Prop := e = .returned (.tuple #[.string (rdText r), .int .i64 (rdWhat r)])

theorem content_range (c : Int) (h : content c = true) : 0 ≤ c ∧ c ≤ 1114111 ∧ c ≠ 10 := by
  unfold content at h
  split at h
  · refine ⟨by omega, by omega, ?_⟩
    rintro rfl
    revert h; simp at *
  · split at h
    · omega
    · simp at h
      omega
/-- Of a text of one line: how many runes there are, and what they are. -/
structure Line (rs : List Int) : Prop where
  len : rs.length ≤ 65536
  ran : ∀ i, 0 ≤ rs.getD i 0 ∧ rs.getD i 0 ≤ 1114111
  nol : ∀ i, rs.getD i 0 ≠ 10
  all : allIn true rs = true
theorem line_of {s : ByteArray} (h : rowB s = true) : okText s = true ∧ Line (runes s) := by
  unfold rowB at h
  simp only [Bool.and_eq_true] at h
  obtain ⟨h1, h2⟩ := h
  have hm : ∀ c ∈ runes s, content c = true := fun c hc => by
    unfold allIn at h2
    have := List.all_eq_true.1 h2 c hc
    simpa using this
  have hget : ∀ i, (runes s).getD i 0 = 0 ∨ content ((runes s).getD i 0) = true := fun i => by
    by_cases hi : i < (runes s).length
    · right
      simp only [List.getD, List.getElem?_eq_getElem hi, Option.getD_some]
      exact hm _ (List.getElem_mem hi)
    · left
      simp [List.getD, List.getElem?_eq_none (by omega : (runes s).length ≤ i)]
  refine ⟨h1, ?_, fun i => ?_, fun i => ?_, ?_⟩
  · have := runes_length s
    unfold okText at h1
    simp at h1
    omega
  · rcases hget i with h | h
    · omega
    · have := content_range _ h; omega
  · rcases hget i with h | h
    · omega
    · exact (content_range _ h).2.2
  · unfold allIn
    rw [List.all_eq_true]
    intro c hc
    simp [hm c hc]

/-- Some truth is answered. -/
def SomeB (e : Ending) : Prop := ∃ b, e = .returned (.bool b)
set_option maxHeartbeats 1000000 in
theorem slashed (s : ByteArray) (w : World) (hs : s.size ≤ 9223372036854775806) : Calls Tryz.prog 25 #[.string s] w fun e w' => SomeB e ∧ w = w' := by
  go_enter Tryz.func25, Tryz.ntmps25
  go_wp2
  go_loop [3] (fun i => ∃ k : Nat, k ≤ s.size ∧ i = .int .i64 k) (fun i => (intOf i).toNat)
  case atStart => exact ⟨s.size, Nat.le_refl _, rfl⟩
  case round =>
    obtain ⟨k, hk, rfl⟩ := hrel
    by_cases h0 : 0 < k
    · have e0 := by'_get s (k - 1) (by omega)
      have ek : ((k - 1 : Nat) : Int) = (k : Int) - 1 := by omega
      have hi : (k : Int) - 1 < (s.size : Int) := by omega
      have hi0 : (0 : Int) ≤ (k : Int) - 1 := by omega
      have et : ((k : Int) - 1).toNat = k - 1 := by omega
      obtain ⟨b, hb⟩ : ∃ b, by' s (k - 1) = b := ⟨_, rfl⟩
      rw [hb] at e0
      by_cases h92 : b = 92
      · subst h92
        go_wp2
        go_round
        case rel => exact ⟨k - 1, by omega, by go_num⟩
        case measure => simp [intOf]; omega
      · have hne : ((b : Int) == 92) = false := by rw [beq_eq_false_iff_ne]; omega
        go_wp2
        go_ret
        exact ⟨⟨_, rfl⟩, rfl⟩
    · obtain rfl : k = 0 := by omega
      go_wp2
      go_ret
      exact ⟨⟨_, rfl⟩, rfl⟩

set_option maxRecDepth 100000 in
set_option maxHeartbeats 8000000 in
theorem readDouble (s : ByteArray) (w : World) (hs : s.size ≤ maxLen) (hT : Tabs w) (hrow : rowB s = true) (hlast : (runes s).getD ((runes s).length - 1) 0 ≠ 92) (hU : ∀ i, (runes s).getD i 0 ≠ 85) :
    Calls Tryz.prog 26 #[.string s] w fun e w' => RdEnd (dq (runes s)) e ∧ Below w.heap.size w w' := by
  have cR := scRunes s w hs hT
  obtain ⟨hok, hL⟩ := line_of hrow
  rw [show RunesEnd s w = fun e w' => RunesEnd s w e w' from rfl] at cR
  have cR' : Calls Tryz.prog 29 #[.string s] w fun e w' => ∃ rb cap, e = .returned (.tuple #[.slice (some ⟨rb, 0, none⟩) (runes s).length cap, .bool true]) ∧ Below w.heap.size w w' ∧
      (∀ i, i < (runes s).length → w'.cell? ⟨rb, i, none⟩ = some (.int .i32 ((runes s).getD i 0))) ∧ (runes s).length ≤ cap := by
    refine cR.mono ?_
    rintro e w' ⟨v, rfl, hb, ht, _⟩
    obtain ⟨rb, cap, _, hv, hblk, hcap⟩ := ht hok
    exact ⟨rb, cap, by rw [hv, hok], hb, taken_rune hblk, hcap⟩
  have CR := Lib.hid cR'
  clear cR cR' hs hT hrow hok
  obtain ⟨rs, hrs⟩ : ∃ rs, runes s = rs := ⟨_, rfl⟩
  rw [hrs] at hL hlast hU CR ⊢
  clear hrs
  have hlen := hL.len
  have HL := Lib.hid hL
  have HLast := Lib.hid hlast
  have HU := Lib.hid hU
  clear hL hlast hU
  go_enter Tryz.func26, Tryz.ntmps26
  go_wp2_with fail
  refine CR.out.mono ?_
  rintro e w1 ⟨rb, cap, rfl, hb, hcell, hcap⟩
  have HB := Lib.hid hb
  have HC := Lib.hid hcell
  have CA : Hid (Calls Tryz.prog 30 #[.slice (some ⟨rb, 0, none⟩) rs.length cap, .bool true] w1 fun e w' => e = .returned (.bool true) ∧ w1 = w') := by
    have := scAll rb cap rs true w1 hcell (by omega)
    rw [HL.out.all] at this
    exact this
  clear hb hcell CR
  go_wp2_with (go_at_call 30; refine CA.out.mono ?_; rintro e w' ⟨rfl, rfl⟩)
  clear CA
  go_loop [6, 7, 8, 9] (fun o h wr i => ∃ (j : Nat) (ob hb : ByteArray) (b : Bool) (acc : List Int), j ≤ rs.length ∧ o = .string ob ∧ h = .string hb ∧ wr = .bool b ∧ i = .int .i64 j ∧ Hid (RdRel rs j b acc) ∧ Hid (ob ++ hb = runesBytes acc) ∧ ob.size + hb.size ≤ 4 * j) (fun _ _ _ i => rs.length - (intOf i).toNat)
  case atStart => exact ⟨0, ⟨#[]⟩, ⟨#[]⟩, false, [], by omega, rfl, rfl, rfl, rfl, RdRel.start rs, Lib.hid rfl, by decide⟩
  case round =>
    obtain ⟨j, ob, hb, b, acc, hj, rfl, rfl, rfl, rfl, HR, HO, hsz⟩ := hrel
    by_cases hlt : j < rs.length
    · have hc := HC.out j hlt
      have hran := HL.out.ran j
      have hn10 := HL.out.nol j
      obtain ⟨c, hcc⟩ : ∃ c, rs.getD j 0 = c := ⟨_, rfl⟩
      have step := HR.out.plain hlt
      rw [hcc] at hc hran hn10 step
      by_cases h92 : c = 92
      · subst h92
        have hj1 : j + 1 < rs.length := by
          rcases Nat.lt_or_ge (j + 1) rs.length with h | h
          · exact h
          · exfalso
            apply HLast.out
            rw [show rs.length - 1 = j by omega]
            exact hcc
        have hc1 := HC.out (j + 1) hj1
        have hn1 := HL.out.nol (j + 1)
        have hu1 := HU.out (j + 1)
        have cEs := scEscape rb cap rs j
        have CE : Hid (∀ w, (∀ i, i < rs.length → w.cell? ⟨rb, i, none⟩ = some (.int .i32 (rs.getD i 0))) → Calls Tryz.prog 48 #[.slice (some ⟨rb, 0, none⟩) rs.length cap, .int .i64 j] w fun e w' => EscEnd rs j e ∧ w = w') :=
          Lib.hid (fun w h => scEscape rb cap rs j w h HL.out.ran (by omega) hcap hj1 hu1)
        have sS := HR.out.slash hj1 hcc
        have sW := HR.out.wrong hj1 hcc
        have sE := fun v k => HR.out.esc (v := v) (k := k) hj1 hcc
        obtain ⟨d, hd⟩ : ∃ d, rs.getD (j + 1) 0 = d := ⟨_, rfl⟩
        rw [hd] at hc1 hn1 hu1 sS sW
        simp only [hd] at sE
        have i1 : (j : Int) + 1 < (rs.length : Int) := by omega
        have q10 : (d == 10) = false := by rw [beq_eq_false_iff_ne]; exact hn1
        by_cases h47 : d = 47
        · have hd' := sS (.inl h47)
          subst h47
          have HD' := Lib.hid hd'
          clear hd' sS sW sE hcc HR HO hd step CE
          go_wp2
          refine bodyPost_ret (v := .tuple #[.string ⟨#[]⟩, .int .i64 0]) (by simp [results, Tryz.results26, go_sem]) rfl ⟨by rw [HD'.out]; rfl, HB.out⟩
        · by_cases h39 : d = 39
          · have hd' := sS (.inr h39)
            subst h39
            have HD' := Lib.hid hd'
            clear hd' sS sW sE hcc HR HO hd step CE
            go_wp2
            refine bodyPost_ret (v := .tuple #[.string ⟨#[]⟩, .int .i64 0]) (by simp [results, Tryz.results26, go_sem]) rfl ⟨by rw [HD'.out]; rfl, HB.out⟩
          · have q47 : (d == 47) = false := by rw [beq_eq_false_iff_ne]; exact h47
            have q39 : (d == 39) = false := by rw [beq_eq_false_iff_ne]; exact h39
            cases hes : esc (rs.drop (j + 1)) with
            | none =>
              have CE' : Hid (∀ w, (∀ i, i < rs.length → w.cell? ⟨rb, i, none⟩ = some (.int .i32 (rs.getD i 0))) → Calls Tryz.prog 48 #[.slice (some ⟨rb, 0, none⟩) rs.length cap, .int .i64 j] w fun e w' => ∃ x a, e = .returned (.tuple #[.int .i32 x, .int .i64 a, .bool false]) ∧ w = w') :=
                Lib.hid (fun w h => (CE.out w h).mono fun e w' ⟨he, hw⟩ => by obtain ⟨x, a, he⟩ := he.2 hes; exact ⟨x, a, he, hw⟩)
              have HW : Hid (∀ acc', RdRel rs (j + 2) true acc') := Lib.hid (sW (by omega) hes)
              have HO2 : Hid (∀ x, (ob ++ hb) ++ Utf8.encode x = runesBytes (acc ++ [x])) := Lib.hid (fun x => by rw [runesBytes_snoc, ← HO.out])
              clear sS sW sE hcc HR HO hd step CE hes h47 h39 hn1 hu1
              go_wp2_with (go_at_call 48; refine (CE'.out _ HC.out).mono ?_; rintro e w' ⟨x, a, rfl, rfl⟩; have hx := encode_size_le x)
              go_round
              case rel => exact ⟨j + 2, ob ++ hb ++ Utf8.encode x, ⟨#[]⟩, true, acc ++ [x], by omega, rfl, rfl, rfl, by go_num, Lib.hid (HW.out _), Lib.hid (by rw [show (⟨#[]⟩ : ByteArray) = ByteArray.empty from rfl, ByteArray.append_empty]; exact HO2.out x), by rw [ByteArray.size_append, ByteArray.size_append, show (⟨#[]⟩ : ByteArray).size = 0 from rfl]; omega⟩
              case measure => simp [intOf]; omega
            | some r =>
              obtain ⟨v, k⟩ := r
              have CE' : Hid (∀ w, (∀ i, i < rs.length → w.cell? ⟨rb, i, none⟩ = some (.int .i32 (rs.getD i 0))) → Calls Tryz.prog 48 #[.slice (some ⟨rb, 0, none⟩) rs.length cap, .int .i64 j] w fun e w' => e = .returned (.tuple #[.int .i32 v, .int .i64 ((j + 1 + k : Nat) : Int), .bool true]) ∧ w = w') :=
                Lib.hid (fun w h => (CE.out w h).mono fun e w' ⟨he, hw⟩ => ⟨he.1 v k hes, hw⟩)
              have HW : Hid (RdRel rs (j + 1 + k) b (acc ++ [v])) := Lib.hid (sE v k (by omega) hes)
              have HO2 : Hid ((ob ++ hb) ++ Utf8.encode v = runesBytes (acc ++ [v])) := Lib.hid (by rw [runesBytes_snoc, ← HO.out])
              have hw := esc_le hj1 hes
              have hx := encode_size_le v
              obtain ⟨a, ha⟩ : ∃ a, j + 1 + k = a := ⟨_, rfl⟩
              rw [ha] at CE' HW hw
              clear sS sW sE hcc HR HO hd step CE hes h47 h39 hn1 hu1
              go_wp2_with (go_at_call 48; refine (CE'.out _ HC.out).mono ?_; rintro e w' ⟨rfl, rfl⟩)
              go_round
              case rel => exact ⟨a, ob ++ hb ++ Utf8.encode v, ⟨#[]⟩, b, acc ++ [v], by omega, rfl, rfl, rfl, rfl, HW, Lib.hid (by rw [show (⟨#[]⟩ : ByteArray) = ByteArray.empty from rfl, ByteArray.append_empty]; exact HO2.out), by rw [ByteArray.size_append, ByteArray.size_append, show (⟨#[]⟩ : ByteArray).size = 0 from rfl]; omega⟩
              case measure => simp [intOf]; omega
      · by_cases h34 : c = 34
        · have hd := HR.out.quote hlt (by rw [hcc, h34])
          subst h34
          have HD' := Lib.hid hd
          clear hd step hcc HR HO h92 hn10
          go_wp2
          refine bodyPost_ret (v := .tuple #[.string ⟨#[]⟩, .int .i64 0]) (by simp [results, Tryz.results26, go_sem]) rfl ⟨by rw [HD'.out]; rfl, HB.out⟩
        · have hw : Hid (RdRel rs (j + 1) b (acc ++ [c])) := Lib.hid (step h92 h34)
          have q92 : (c == 92) = false := by rw [beq_eq_false_iff_ne]; exact h92
          have q34 : (c == 34) = false := by rw [beq_eq_false_iff_ne]; exact h34
          have q10 : (c == 10) = false := by rw [beq_eq_false_iff_ne]; exact hn10
          have CW : Hid (∀ w, Calls Tryz.prog 50 #[.int .i32 c] w fun e w' => e = .returned (.bool (c == 32 || c == 9)) ∧ w = w') := Lib.hid (scWhite c)
          have henc : Hid ((ob ++ hb) ++ Utf8.encode c = runesBytes (acc ++ [c])) := by rw [runesBytes_snoc, ← HO.out]; exact Lib.hid rfl
          have hes := encode_size_le c
          cases hwh : (c == 32 || c == 9) with
          | true =>
            rw [hwh] at CW
            clear step h92 h34 hn10 hcc hwh HR HO
            go_wp2_with (go_at_call 50; refine (CW.out _).mono ?_; rintro e w' ⟨rfl, rfl⟩)
            go_round
            case rel => exact ⟨j + 1, ob, hb ++ Utf8.encode c, b, acc ++ [c], by omega, rfl, rfl, rfl, by go_num, hw, Lib.hid (by rw [← ByteArray.append_assoc]; exact henc.out), by rw [ByteArray.size_append]; omega⟩
            case measure => simp [intOf]; omega
          | false =>
            rw [hwh] at CW
            clear step h92 h34 hn10 hcc hwh HR HO
            go_wp2_with (go_at_call 50; refine (CW.out _).mono ?_; rintro e w' ⟨rfl, rfl⟩)
            go_round
            case rel => exact ⟨j + 1, ob ++ hb ++ Utf8.encode c, ⟨#[]⟩, b, acc ++ [c], by omega, rfl, rfl, rfl, by go_num, hw, Lib.hid (by rw [show (⟨#[]⟩ : ByteArray) = ByteArray.empty from rfl, ByteArray.append_empty]; exact henc.out), by rw [ByteArray.size_append, ByteArray.size_append, show (⟨#[]⟩ : ByteArray).size = 0 from rfl]; omega⟩
            case measure => simp [intOf]; omega
    · have hf := HR.out.fin (by omega)
      have HF := Lib.hid hf
      have HO' := Lib.hid HO.out
      clear hf HR HO
      cases b with
      | true =>
        go_wp2
        refine bodyPost_ret (v := .tuple #[.string ⟨#[]⟩, .int .i64 1]) (by simp [results, Tryz.results26, go_sem]) rfl ⟨?_, HB.out⟩
        rw [HF.out]; rfl
      | false =>
        go_wp2
        refine bodyPost_ret (v := .tuple #[.string (ob ++ hb), .int .i64 2]) (by simp [results, Tryz.results26, go_sem]) rfl ⟨?_, HB.out⟩
        rw [HF.out, HO'.out]; rfl

/-- What a reader between single quotes that has come to the place j has yet to read. -/
def RsRel (rs : List Int) (j : Nat) (acc : List Int) : Prop := sq rs = (sq (rs.drop j)).map (acc ++ ·)
theorem RsRel.start (rs : List Int) : RsRel rs 0 [] := by
  unfold RsRel
  rw [List.drop_zero]
  cases sq rs with
  | none => rfl
  | some r => simp
theorem RsRel.plain {rs : List Int} {j : Nat} {acc : List Int} (h : RsRel rs j acc) (hj : j < rs.length) (h1 : rs.getD j 0 ≠ 39) : RsRel rs (j + 1) (acc ++ [rs.getD j 0]) := by
  unfold RsRel at *
  rw [h, drop_at rs j hj, sq_plain _ _ h1]
  cases sq (rs.drop (j + 1)) with
  | none => rfl
  | some r => simp
theorem RsRel.two {rs : List Int} {j : Nat} {acc : List Int} (h : RsRel rs j acc) (hj : j + 1 < rs.length) (h1 : rs.getD j 0 = 39) (h2 : rs.getD (j + 1) 0 = 39) : RsRel rs (j + 2) (acc ++ [39]) := by
  unfold RsRel at *
  rw [h, drop_at rs j (by omega), drop_at rs (j + 1) hj, h1, h2, sq_two]
  cases sq (rs.drop (j + 1 + 1)) with
  | none => rfl
  | some r => simp
theorem RsRel.one {rs : List Int} {j : Nat} {acc : List Int} (h : RsRel rs j acc) (hj : j + 1 < rs.length) (h1 : rs.getD j 0 = 39) (h2 : rs.getD (j + 1) 0 ≠ 39) : sq rs = none := by
  unfold RsRel at h
  rw [h, drop_at rs j (by omega), drop_at rs (j + 1) hj, h1, sq_one _ _ h2]; rfl
theorem RsRel.last {rs : List Int} {j : Nat} {acc : List Int} (h : RsRel rs j acc) (hj : j + 1 = rs.length) (h1 : rs.getD j 0 = 39) : sq rs = none := by
  unfold RsRel at h
  rw [h, drop_at rs j (by omega), List.drop_eq_nil_of_le (by omega : rs.length ≤ j + 1), h1, sq_end]; rfl
theorem RsRel.fin {rs : List Int} {j : Nat} {acc : List Int} (h : RsRel rs j acc) (hj : rs.length ≤ j) : sq rs = some acc := by
  unfold RsRel at h
  rw [h, List.drop_eq_nil_of_le hj, sq_nil]
  simp

set_option maxRecDepth 100000 in
set_option maxHeartbeats 8000000 in
theorem readSingle (s : ByteArray) (w : World) (hs : s.size ≤ maxLen) (hT : Tabs w) (hrow : rowB s = true) :
    Calls Tryz.prog 27 #[.string s] w fun e w' => RdEnd ((sq (runes s)).map some) e ∧ Below w.heap.size w w' := by
  have cR := scRunes s w hs hT
  obtain ⟨hok, hL⟩ := line_of hrow
  rw [show RunesEnd s w = fun e w' => RunesEnd s w e w' from rfl] at cR
  have cR' : Calls Tryz.prog 29 #[.string s] w fun e w' => ∃ rb cap, e = .returned (.tuple #[.slice (some ⟨rb, 0, none⟩) (runes s).length cap, .bool true]) ∧ Below w.heap.size w w' ∧
      (∀ i, i < (runes s).length → w'.cell? ⟨rb, i, none⟩ = some (.int .i32 ((runes s).getD i 0))) ∧ (runes s).length ≤ cap := by
    refine cR.mono ?_
    rintro e w' ⟨v, rfl, hb, ht, _⟩
    obtain ⟨rb, cap, _, hv, hblk, hcap⟩ := ht hok
    exact ⟨rb, cap, by rw [hv, hok], hb, taken_rune hblk, hcap⟩
  have CR := Lib.hid cR'
  clear cR cR' hs hT hrow hok
  obtain ⟨rs, hrs⟩ : ∃ rs, runes s = rs := ⟨_, rfl⟩
  rw [hrs] at hL CR ⊢
  clear hrs
  have hlen := hL.len
  have HL := Lib.hid hL
  clear hL
  go_enter Tryz.func27, Tryz.ntmps27
  go_wp2_with fail
  refine CR.out.mono ?_
  rintro e w1 ⟨rb, cap, rfl, hb, hcell, hcap⟩
  have HB := Lib.hid hb
  have HC := Lib.hid hcell
  have CA : Hid (Calls Tryz.prog 30 #[.slice (some ⟨rb, 0, none⟩) rs.length cap, .bool true] w1 fun e w' => e = .returned (.bool true) ∧ w1 = w') := by
    have := scAll rb cap rs true w1 hcell (by omega)
    rw [HL.out.all] at this
    exact this
  clear hb hcell CR
  go_wp2_with (go_at_call 30; refine CA.out.mono ?_; rintro e w' ⟨rfl, rfl⟩)
  clear CA
  go_loop [6, 7, 8] (fun o h i => ∃ (j : Nat) (ob hb : ByteArray) (acc : List Int), j ≤ rs.length ∧ o = .string ob ∧ h = .string hb ∧ i = .int .i64 j ∧ Hid (RsRel rs j acc) ∧ Hid (ob ++ hb = runesBytes acc) ∧ ob.size + hb.size ≤ 4 * j) (fun _ _ i => rs.length - (intOf i).toNat)
  case atStart => exact ⟨0, ⟨#[]⟩, ⟨#[]⟩, [], by omega, rfl, rfl, rfl, RsRel.start rs, Lib.hid rfl, by decide⟩
  case round =>
    obtain ⟨j, ob, hb, acc, hj, rfl, rfl, rfl, HR, HO, hsz⟩ := hrel
    by_cases hlt : j < rs.length
    · have hc := HC.out j hlt
      have hran := HL.out.ran j
      have hn10 := HL.out.nol j
      obtain ⟨c, hcc⟩ : ∃ c, rs.getD j 0 = c := ⟨_, rfl⟩
      have step := HR.out.plain hlt
      rw [hcc] at hc hran hn10 step
      by_cases h39 : c = 39
      · subst h39
        have CW : Hid (∀ w, Calls Tryz.prog 50 #[.int .i32 39] w fun e w' => e = .returned (.bool false) ∧ w = w') := Lib.hid (scWhite 39)
        rcases Nat.lt_or_ge (j + 1) rs.length with hj1 | hj1
        · have hc1 := HC.out (j + 1) hj1
          have i1 : (j : Int) + 1 < (rs.length : Int) := by omega
          have i2 : ((j : Int) + 1 == (rs.length : Int)) = false := by rw [beq_eq_false_iff_ne]; omega
          have s2 := HR.out.two hj1 hcc
          have s1 := HR.out.one hj1 hcc
          obtain ⟨d, hd⟩ : ∃ d, rs.getD (j + 1) 0 = d := ⟨_, rfl⟩
          rw [hd] at hc1 s2 s1
          by_cases hd39 : d = 39
          · have hw : Hid (RsRel rs (j + 2) (acc ++ [39])) := Lib.hid (s2 hd39)
            have henc : Hid ((ob ++ hb) ++ Utf8.encode 39 = runesBytes (acc ++ [39])) := by rw [runesBytes_snoc, ← HO.out]; exact Lib.hid rfl
            have he39 : Utf8.encode 39 = ⟨#[39]⟩ := by decide
            rw [he39] at henc
            have hz39 : (⟨#[39]⟩ : ByteArray).size = 1 := rfl
            subst hd39
            clear s1 s2 step hcc HR HO hd he39 hn10
            go_wp2_with (go_at_call 50; refine (CW.out _).mono ?_; rintro e w' ⟨rfl, rfl⟩)
            go_round
            case rel => exact ⟨j + 2, ob ++ hb ++ ⟨#[39]⟩, ⟨#[]⟩, acc ++ [39], by omega, rfl, rfl, by go_num, hw, Lib.hid (by rw [show (⟨#[]⟩ : ByteArray) = ByteArray.empty from rfl, ByteArray.append_empty]; exact henc.out), by rw [ByteArray.size_append, ByteArray.size_append, show (⟨#[]⟩ : ByteArray).size = 0 from rfl]; omega⟩
            case measure => simp [intOf]; omega
          · have hno := s1 hd39
            have HD' := Lib.hid hno
            have q39 : (d != 39) = true := by simp [hd39]
            clear s1 s2 step hcc HR HO hd hno hn10 hd39
            go_wp2_with (go_at_call 50; refine (CW.out _).mono ?_; rintro e w' ⟨rfl, rfl⟩)
            refine bodyPost_ret (v := .tuple #[.string ⟨#[]⟩, .int .i64 0]) (by simp [results, Tryz.results27, go_sem]) rfl ⟨by rw [HD'.out]; rfl, HB.out⟩
        · have hno := HR.out.last (by omega) hcc
          have HD' := Lib.hid hno
          have i2 : ((j : Int) + 1 == (rs.length : Int)) = true := by rw [beq_iff_eq]; omega
          clear step hcc HR HO hno hn10
          go_wp2_with (go_at_call 50; refine (CW.out _).mono ?_; rintro e w' ⟨rfl, rfl⟩)
          refine bodyPost_ret (v := .tuple #[.string ⟨#[]⟩, .int .i64 0]) (by simp [results, Tryz.results27, go_sem]) rfl ⟨by rw [HD'.out]; rfl, HB.out⟩
      · have hw : Hid (RsRel rs (j + 1) (acc ++ [c])) := Lib.hid (step h39)
        have q39 : (c == 39) = false := by rw [beq_eq_false_iff_ne]; exact h39
        have q10 : (c == 10) = false := by rw [beq_eq_false_iff_ne]; exact hn10
        have CW : Hid (∀ w, Calls Tryz.prog 50 #[.int .i32 c] w fun e w' => e = .returned (.bool (c == 32 || c == 9)) ∧ w = w') := Lib.hid (scWhite c)
        have henc : Hid ((ob ++ hb) ++ Utf8.encode c = runesBytes (acc ++ [c])) := by rw [runesBytes_snoc, ← HO.out]; exact Lib.hid rfl
        have hes := encode_size_le c
        cases hwh : (c == 32 || c == 9) with
        | true =>
          rw [hwh] at CW
          clear step h39 hn10 hcc hwh HR HO
          go_wp2_with (go_at_call 50; refine (CW.out _).mono ?_; rintro e w' ⟨rfl, rfl⟩)
          go_round
          case rel => exact ⟨j + 1, ob, hb ++ Utf8.encode c, acc ++ [c], by omega, rfl, rfl, by go_num, hw, Lib.hid (by rw [← ByteArray.append_assoc]; exact henc.out), by rw [ByteArray.size_append]; omega⟩
          case measure => simp [intOf]; omega
        | false =>
          rw [hwh] at CW
          clear step h39 hn10 hcc hwh HR HO
          go_wp2_with (go_at_call 50; refine (CW.out _).mono ?_; rintro e w' ⟨rfl, rfl⟩)
          go_round
          case rel => exact ⟨j + 1, ob ++ hb ++ Utf8.encode c, ⟨#[]⟩, acc ++ [c], by omega, rfl, rfl, by go_num, hw, Lib.hid (by rw [show (⟨#[]⟩ : ByteArray) = ByteArray.empty from rfl, ByteArray.append_empty]; exact henc.out), by rw [ByteArray.size_append, ByteArray.size_append, show (⟨#[]⟩ : ByteArray).size = 0 from rfl]; omega⟩
          case measure => simp [intOf]; omega
    · have hf := HR.out.fin (by omega)
      have HF := Lib.hid hf
      have HO' := Lib.hid HO.out
      clear hf HR HO
      go_wp2
      refine bodyPost_ret (v := .tuple #[.string (ob ++ hb), .int .i64 2]) (by simp [results, Tryz.results27, go_sem]) rfl ⟨?_, HB.out⟩
      rw [HF.out, HO'.out]; rfl
end Go.Proofs.YtpjfmfaijcbopaaGreatDoor
