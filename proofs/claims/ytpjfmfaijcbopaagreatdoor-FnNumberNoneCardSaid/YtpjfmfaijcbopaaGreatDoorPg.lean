/- internal/strconv.atof64 of a text with a dot and a byte that stands in no number: not the whole of it is passed, or it is an error. -/
import Derived.Test.YtpjfmfaijcbopaaGreatDoorFd
import Derived.Test.YtpjfmfaijcbopaaGreatDoorRg
import Derived.Test.YtpjfmfaijcbopaaGreatDoorSe
namespace Go.Proofs.YtpjfmfaijcbopaaGreatDoor
open Go.RowKit Go.Proofs

theorem bits215 (b b11 b10 bl : Nat) (d : Dec) (w : World) (h : DecAt w b d) (hF : DecF d) (hG : Glob w b b11 b10 bl) (hT : CheatTab w bl) (h13 : 13 < b) :
    Calls Tryz.prog 215 #[.pointer (some ⟨b, 0, none⟩), .pointer (some ⟨7, 0, none⟩)] w fun e w' => SomeUB e ∧ Below b w w' := by
  rcases hF.1 with h0 | hok
  · exact bits215a b b11 b10 bl d w h (.inl h0) hG
  · by_cases h1 : 310 < d.dp
    · exact bits215a b b11 b10 bl d w h (.inr ⟨hok, .inl h1⟩) hG
    by_cases h2 : d.dp < -330
    · exact bits215a b b11 b10 bl d w h (.inr ⟨hok, .inr h2⟩) hG
    exact bits215b b b11 b10 bl d w h hok (by omega) (by omega) hG hT h13
theorem Glob.up {w : World} {B B' b11 b10 bl : Nat} (h : Glob w B b11 b10 bl) (hB : B ≤ B') : Glob w B' b11 b10 bl := by
  obtain ⟨l12, l11, l10, ll⟩ := h.lt
  exact ⟨h.pow, ⟨by omega, by omega, by omega, by omega⟩, h.opt, h.i0, h.i1, h.i2, h.t11, h.t10⟩
/-- The decimal nought, as new memory holds it. -/
def dec0 : Dec := ⟨List.replicate 800 0, 0, 0, false, false⟩
theorem alloc211 (w : World) : (Instr.alloc 211 true (.tuple #[])).run Tryz.prog w = .ok (.pointer (some ⟨w.heap.size, 0, none⟩)) (w.alloc (.cells dec0.cells.toArray 211)) := by kernel_rfl
theorem dec0_at (w : World) : DecAt (w.alloc (.cells dec0.cells.toArray 211)) w.heap.size dec0 := ⟨Blk.new w dec0.cells 211, by decide +kernel⟩
set_option maxRecDepth 100000 in
set_option maxHeartbeats 4000000 in
theorem set214e (s : ByteArray) (b : Nat) (d0 : Dec) (w : World) (h : DecAt w b d0) (hn0 : d0.nd = 0) (hd0 : d0.dp = 0) (hp : s.size = 0) :
    Calls Tryz.prog 214 #[.pointer (some ⟨b, 0, none⟩), .string s] w (SetEnd b w) := by
  have hpi : s = ByteArray.empty := by
    have : s.data = #[] := Array.eq_empty_of_size_eq_zero hp
    cases s
    simp at this
    subst this
    rfl
  subst hpi
  have c2 := h.cng
  have c3 := h.ctr
  have f2 := h.free 802
  have f3 := (h.setng false).free 803
  have HD := Lib.hid ((h.setng false).settr false)
  have HB := Lib.hid (((Below.refl b w).setCell (p := ⟨b, 802, none⟩) (Nat.le_refl _) (.bool false)).setCell (p := ⟨b, 803, none⟩) (Nat.le_refl _) (.bool false))
  have HF : Hid (DecF { { d0 with ng := false } with tr := false }) := Lib.hid ⟨.inl hn0, by show d0.nd ≤ 800; omega, by show -5000000000 ≤ d0.dp; omega, by show d0.dp ≤ 5000000000; omega⟩
  clear h hn0 hd0 hp
  go_enter Tryz.func214, Tryz.ntmps214
  go_wp2_with fail
  go_ret
  exact ⟨false, _, rfl, HD.out, HF.out, HB.out⟩
theorem set214n (s : ByteArray) (b : Nat) (w : World) (h : DecAt w b dec0) (hmax : s.size ≤ 4294967297) :
    Calls Tryz.prog 214 #[.pointer (some ⟨b, 0, none⟩), .string s] w (SetEnd b w) := by
  rcases Nat.eq_zero_or_pos s.size with h1 | h1
  · exact set214e s b dec0 w h rfl rfl h1
  · exact set214 s b dec0 w h rfl rfl hmax h1

/-- What atof64 answers: not the whole of the text was passed, or it is a fault of syntax. -/
def AtEnd (s : ByteArray) (e : Ending) : Prop := ∃ (f : Nat) (n : Int) (v : Value), e = .returned (.tuple #[.float .f64 f, .int .i64 n, v]) ∧ (n ≠ s.size ∨ v = .iface 161 (.int .i64 2))
theorem AtEnd.lt {s : ByteArray} {f : Nat} {n : Nat} {v : Value} (h : n < s.size) : AtEnd s (.returned (.tuple #[.float .f64 f, .int .i64 n, v])) := ⟨f, n, v, rfl, .inl (by omega)⟩
theorem AtEnd.syn {s : ByteArray} {f : Nat} {n : Int} : AtEnd s (.returned (.tuple #[.float .f64 f, .int .i64 n, .iface 161 (.int .i64 2)])) := ⟨f, n, _, rfl, .inr rfl⟩
attribute [-go_sem] Instr.alloc in
set_option maxRecDepth 100000 in
set_option maxHeartbeats 16000000 in
theorem atof166 (s : ByteArray) (w : World) (b11 b10 bl : Nat) (hmax : s.size ≤ 4294967297) (hodd : Odd s.data.toList) (h46 : ∃ j, j < s.size ∧ by' s j = 46) (hG : Glob w w.heap.size b11 b10 bl) (hT : CheatTab w bl) (h13 : 13 < w.heap.size) :
    Calls Tryz.prog 166 #[.string s] w fun e w' => AtEnd s e ∧ Below w.heap.size w w' := by
  have C7 := Lib.hid (special207 s w (by omega) (badL_ne hodd.1))
  have C8 := Lib.hid (read208 s w hmax hodd)
  have C6 := Lib.hid bool216
  have HX : Hid (∀ n : Nat, n ≤ s.size → (∀ j, j < n → by' s j ≠ 46) → n < s.size) := Lib.hid (fun n h1 h2 => by
    obtain ⟨j, hj, h3⟩ := h46
    rcases Nat.lt_or_ge n s.size with h | h
    · exact h
    · exact absurd h3 (h2 j (by omega)))
  have HG := Lib.hid hG
  have HT := Lib.hid hT
  have c4 := hG.opt
  have hfb := frombits
  have hal := alloc211
  clear h46 hG hT hodd
  go_enter Tryz.func166, Tryz.ntmps166
  go_wp2_with fail
  refine C7.out.mono ?_
  rintro e w' ⟨⟨f, i, ok, rfl, hok⟩, rfl⟩
  cases ok
  case true =>
    obtain ⟨n, rfl, hn1, hn2⟩ := hok rfl
    have HN := Lib.hid (HX.out n hn1 hn2)
    clear hn2 hok
    as_aux_lemma =>
      go_wp2_with fail
      go_ret3
      exact ⟨AtEnd.lt HN.out, Below.refl _ _⟩
  clear hok HX
  go_wp2_with fail
  refine C8.out.mono ?_
  rintro e w' ⟨⟨m, x, ng, tr, hx, i, ok, rfl, hi, hok⟩, rfl⟩
  cases ok
  case false =>
    clear hok
    as_aux_lemma =>
      go_wp2_with fail
      go_ret3
      exact ⟨AtEnd.syn, Below.refl _ _⟩
  obtain ⟨rfl, hlt, hm0, hm1⟩ := hok rfl
  obtain ⟨d, rfl⟩ : ∃ d : Nat, m = d := ⟨m.toNat, by omega⟩
  have HM : Hid (d < 18446744073709551616) := Lib.hid (by omega)
  clear hok hm0 hm1 C7 C8
  go_upto_region 11 with fail
  go_cut [16] (fun v wx => ∃ sg : Int, v = .int .u64 sg ∧ w = wx)
  case first => as_aux_lemma =>
    cases ng
    all_goals
      go_wp2_with (go_at_call 216; refine (C6.out _ _).mono ?_; rintro e w' ⟨rfl, rfl⟩)
      go_meet
      exact ⟨_, rfl, rfl⟩
  case rest => as_aux_lemma =>
    obtain ⟨sg, rfl, rfl⟩ := hcut
    by_cases hd0 : d = 0
    · subst hd0
      go_wp2_with fail
      go_ret3
      exact ⟨AtEnd.lt hlt, Below.refl _ _⟩
    have hdz : ((d : Int) == 0) = false := by rw [beq_eq_false_iff_ne]; omega
    by_cases hx1 : 310 < x
    · as_aux_lemma =>
        go_wp2_with fail
        go_ret3
        exact ⟨AtEnd.lt hlt, Below.refl _ _⟩
    by_cases hx2 : x < -345
    · as_aux_lemma =>
        go_wp2_with fail
        go_ret3
        exact ⟨AtEnd.lt hlt, Below.refl _ _⟩
    obtain ⟨p, hp⟩ : ∃ p : Nat, x = (p : Int) - 348 := ⟨(x + 348).toNat, by omega⟩
    have hp6 : p < 696 := by omega
    have C9 : Hid (∀ (d : Nat) (w' : World), d < 18446744073709551616 → Below w.heap.size w w' → Calls Tryz.prog 219 #[.int .u64 d, .int .i64 x, .int .u64 sg] w' fun r w2 => SomeFV r ∧ Below w'.heap.size w' w2) := Lib.hid (fun d w' hd hB => by
      rw [hp]
      exact parse219 d p sg w' hd hp6 (HG.out.below hB).pow)
    have C18 := Lib.hid (exact218 d x ng w w.heap.size b11 b10 bl HG.out)
    clear hp hp6
    cases tr
    · go_wp2_with fail
      refine C18.out.mono ?_
      rintro e w2 ⟨⟨f2, b2, rfl⟩, hB⟩
      have HB := Lib.hid hB
      clear hB
      cases b2
      · go_wp2_with fail
        refine (C9.out d _ HM.out HB.out).mono ?_
        rintro e w3 ⟨⟨f3, v3, rfl⟩, hB⟩
        have HB3 := Lib.hid (HB.out.trans (hB.mono HB.out.size))
        clear hB
        as_aux_lemma =>
          go_wp2_with fail
          go_ret3
          exact ⟨AtEnd.lt hlt, HB3.out⟩
      · as_aux_lemma =>
          go_wp2_with fail
          go_ret3
          exact ⟨AtEnd.lt hlt, HB.out⟩
    · go_wp2_with fail
      refine (C9.out d _ HM.out (Below.refl _ _)).mono ?_
      rintro e w2 ⟨⟨f2, v2, rfl⟩, hB⟩
      have HB := Lib.hid hB
      clear hB C18
      obtain ⟨d1, hd1, hd2⟩ := wrapU ((d : Int) + 1)
      have HD1 := Lib.hid hd2
      clear hd2
      go_wp2_with fail
      refine (C9.out d1 _ HD1.out HB.out).mono ?_
      rintro e w3 ⟨⟨f3, v3, rfl⟩, hB⟩
      have HB3 := Lib.hid (HB.out.trans (hB.mono HB.out.size))
      clear hB HB hd1
      go_wp2_with fail
      · as_aux_lemma =>
          go_ret3
          exact ⟨AtEnd.lt hlt, HB3.out⟩
      · have hsz : w.heap.size ≤ w3.heap.size := HB3.out.size
        have HBA := Lib.hid (HB3.out.alloc (B := w.heap.size) hsz (.cells dec0.cells.toArray 211))
        refine (set214n (s.extract 0 i) w3.heap.size _ (dec0_at w3) (by rw [ByteArray.size_extract]; omega)).mono ?_
        rintro e w5 ⟨ok2, d2, rfl, hD, hF, hB⟩
        have HD5 := Lib.hid hD
        have HF5 := Lib.hid hF
        have HB5 := Lib.hid (HBA.out.trans (hB.mono hsz))
        have HG5 := Lib.hid (((HG.out.below HBA.out).up hsz).below hB)
        have HT5 := Lib.hid ((HT.out.below HBA.out h13 HG.out.lt.2.2.2).below hB (show 13 < w3.heap.size by omega) (by have := HG.out.lt.2.2.2; omega))
        clear hD hF hB C9 hdz hx1 hx2
        cases ok2
        · as_aux_lemma =>
            go_wp2_with fail
            go_ret3
            exact ⟨AtEnd.syn, HB5.out⟩
        · go_wp2_with fail
          refine (bits215 w3.heap.size b11 b10 bl d2 w5 HD5.out HF5.out HG5.out HT5.out (by omega)).mono ?_
          rintro e w6 ⟨⟨v6, t6, rfl⟩, hB⟩
          have HB6 := Lib.hid (HB5.out.trans (hB.mono hsz))
          clear hB HB5 HG5 HT5 HD5 HF5
          as_aux_lemma =>
            go_wp2_with fail
            all_goals
              go_ret3
              exact ⟨AtEnd.lt hlt, HB6.out⟩

/-- What ParseFloat answers of such a text: a fault of syntax. -/
def FpEnd (e : Ending) : Prop := ∃ f : Nat, e = .returned (.tuple #[.float .f64 f, .iface 161 (.int .i64 2)])
set_option maxHeartbeats 4000000 in
theorem pfp126 (s : ByteArray) (w : World) (b11 b10 bl : Nat) (hmax : s.size ≤ 4294967297) (hodd : Odd s.data.toList) (h46 : ∃ j, j < s.size ∧ by' s j = 46) (hG : Glob w w.heap.size b11 b10 bl) (hT : CheatTab w bl) (h13 : 13 < w.heap.size) :
    Calls Tryz.prog 126 #[.string s, .int .i64 64] w fun e w' => AtEnd s e ∧ Below w.heap.size w w' := by
  have C := Lib.hid (atof166 s w b11 b10 bl hmax hodd h46 hG hT h13)
  clear hodd h46 hG hT
  go_enter Tryz.func126, Tryz.ntmps126
  go_wp2_with fail
  refine C.out.mono ?_
  rintro e w' ⟨⟨f, n, v, rfl, h⟩, hB⟩
  have H := Lib.hid (And.intro h hB)
  clear h hB
  go_wp2_with fail
  go_ret3
  exact ⟨⟨f, n, v, rfl, H.out.1⟩, H.out.2⟩
set_option maxHeartbeats 4000000 in
theorem pf89 (s : ByteArray) (w : World) (b11 b10 bl : Nat) (hmax : s.size ≤ 4294967297) (hodd : Odd s.data.toList) (h46 : ∃ j, j < s.size ∧ by' s j = 46) (hG : Glob w w.heap.size b11 b10 bl) (hT : CheatTab w bl) (h13 : 13 < w.heap.size) :
    Calls Tryz.prog 89 #[.string s, .int .i64 64] w fun e w' => FpEnd e ∧ Below w.heap.size w w' := by
  have C := Lib.hid (pfp126 s w b11 b10 bl hmax hodd h46 hG hT h13)
  clear hodd h46 hG hT
  go_enter Tryz.func89, Tryz.ntmps89
  go_wp2_with fail
  refine C.out.mono ?_
  rintro e w' ⟨⟨f, n, v, rfl, h⟩, hB⟩
  have H := Lib.hid hB
  clear hB
  by_cases hn : n = s.size
  · subst hn
    have hv : v = .iface 161 (.int .i64 2) := by
      rcases h with h | h
      · exact absurd rfl h
      · exact h
    subst hv
    clear h
    go_wp2_with fail
    go_ret2
    exact ⟨⟨_, rfl⟩, H.out⟩
  · have hq : (n != (s.size : Int)) = true := by simp; exact hn
    clear h
    go_wp2_with fail
    go_ret2
    exact ⟨⟨_, rfl⟩, H.out⟩
/-- A float, and an error that is not nil. -/
def ErrF (e : Ending) : Prop := ∃ (f : Nat) (N : Nat), e = .returned (.tuple #[.float .f64 f, .iface 162 (.pointer (some ⟨N, 0, none⟩))])
set_option maxHeartbeats 4000000 in
theorem pf39 (s : ByteArray) (w : World) (b11 b10 bl : Nat) (hmax : s.size ≤ 4294967296) (hodd : Odd s.data.toList) (h46 : ∃ j, j < s.size ∧ by' s j = 46) (hG : Glob w w.heap.size b11 b10 bl) (hT : CheatTab w bl) (h13 : 13 < w.heap.size) (hE : Errs w) :
    Calls Tryz.prog 39 #[.string s, .int .i64 64] w fun e w' => ErrF e ∧ Below w.heap.size w w' := by
  have C := Lib.hid (pf89 s w b11 b10 bl (by omega) hodd h46 hG hT h13)
  have HE := Lib.hid hE
  clear hodd h46 hG hT hE
  go_enter Tryz.func39, Tryz.ntmps39
  go_wp2_with fail
  refine C.out.mono ?_
  rintro e w' ⟨⟨f, rfl⟩, hB⟩
  have H := Lib.hid hB
  have C2 := Lib.hid (toError90 ⟨#[80, 97, 114, 115, 101, 70, 108, 111, 97, 116]⟩ s 0 64 2 w' (.inl rfl) hmax (HE.out.below hB))
  clear hB
  go_wp2_with fail
  refine C2.out.mono ?_
  rintro e w'' ⟨⟨N, rfl⟩, hB⟩
  have H2 := Lib.hid (H.out.trans (hB.mono H.out.size))
  clear hB
  go_wp2_with fail
  go_ret2
  exact ⟨⟨_, _, rfl⟩, H2.out⟩
end Go.Proofs.YtpjfmfaijcbopaaGreatDoor
