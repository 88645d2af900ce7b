/- token.toNumber, token.ToNumber, impl.ToNumber of a text with a byte that stands in no number: none. -/
import Derived.Test.YtpjfmfaijcbopaaGreatDoorPg
import Derived.Test.YtpjfmfaijcbopaaGreatDoorNt
import Derived.Deep.CutBlock
namespace Go.Proofs.YtpjfmfaijcbopaaGreatDoor
open Go.RowKit Go.Proofs

/-- Does a list of bytes hold a dot? -/
def Dot (l : List UInt8) : Prop := ∃ c ∈ l, c.toNat = 46
theorem Dot.at {s : ByteArray} (h : Dot s.data.toList) : ∃ j, j < s.size ∧ by' s j = 46 := by
  obtain ⟨c, hc, h46⟩ := h
  obtain ⟨j, hj, rfl⟩ := List.getElem_of_mem hc
  refine ⟨j, by simpa using hj, ?_⟩
  unfold by'
  rw [List.getD, List.getElem?_eq_getElem hj]
  exact h46
/-- A text without a sign ahead, its type and its base, as toNumber tells them. -/
def NumT (s t ty : ByteArray) (bs : Int) : Prop := Odd t.data.toList ∧ t.size ≤ s.size ∧ (((ty = ⟨#[104, 101, 120]⟩ ∨ ty = ⟨#[111, 99, 116, 101, 116]⟩ ∨ ty = ⟨#[98, 105, 110, 97, 114, 121]⟩ ∨ ty = ⟨#[100, 101, 99, 105, 109, 97, 108]⟩) ∧ BaseOk bs) ∨ (ty = ⟨#[102, 108, 111, 97, 116]⟩ ∧ Dot t.data.toList))
/-- A text with a sign ahead, or as it was. -/
def NumX (s x ty : ByteArray) (bs : Int) : Prop := Odd x.data.toList ∧ x.size ≤ s.size + 1 ∧ (((ty = ⟨#[104, 101, 120]⟩ ∨ ty = ⟨#[111, 99, 116, 101, 116]⟩ ∨ ty = ⟨#[98, 105, 110, 97, 114, 121]⟩ ∨ ty = ⟨#[100, 101, 99, 105, 109, 97, 108]⟩) ∧ BaseOk bs) ∨ (ty = ⟨#[102, 108, 111, 97, 116]⟩ ∧ Dot x.data.toList))
theorem NumT.toX {s t ty : ByteArray} {bs : Int} (h : NumT s t ty bs) : NumX s t ty bs := ⟨h.1, by have := h.2.1; omega, h.2.2⟩
theorem NumT.minus {s t ty : ByteArray} {bs : Int} (h : NumT s t ty bs) : NumX s (⟨#[45]⟩ ++ t) ty bs := by
  have hd : ((⟨#[45]⟩ : ByteArray) ++ t).data.toList = 45 :: t.data.toList := by
    rw [ByteArray.data_append]; simp
  refine ⟨?_, ?_, ?_⟩
  · rw [hd]
    refine ⟨?_, ?_⟩
    · show (!okb (45 : UInt8).toNat || badL t.data.toList) = true
      rw [h.1.1, Bool.or_true]
    · have h2 := h.1.2
      unfold pxL at *
      simpa using h2
  · rw [ByteArray.size_append]
    have := h.2.1
    show 1 + t.size ≤ s.size + 1
    omega
  · rcases h.2.2 with h1 | ⟨h1, c, hc, h46⟩
    · exact .inl h1
    · exact .inr ⟨h1, c, by rw [hd]; exact List.mem_cons_of_mem _ hc, h46⟩

theorem NumT.trim {s r p ty : ByteArray} {bs : Int} (hr : Odd r.data.toList) (hs : r.size ≤ s.size) (hp : badL p.data.toList = false) (h : (ty = ⟨#[104, 101, 120]⟩ ∨ ty = ⟨#[111, 99, 116, 101, 116]⟩ ∨ ty = ⟨#[98, 105, 110, 97, 114, 121]⟩ ∨ ty = ⟨#[100, 101, 99, 105, 109, 97, 108]⟩) ∧ BaseOk bs) : NumT s (trimB r p) ty bs := by
  have := trim_odd hp hr
  exact ⟨this.1, by omega, .inl h⟩
theorem NumT.self {s r ty : ByteArray} {bs : Int} (hr : Odd r.data.toList) (hs : r.size ≤ s.size) (h : (ty = ⟨#[104, 101, 120]⟩ ∨ ty = ⟨#[111, 99, 116, 101, 116]⟩ ∨ ty = ⟨#[98, 105, 110, 97, 114, 121]⟩ ∨ ty = ⟨#[100, 101, 99, 105, 109, 97, 108]⟩) ∧ BaseOk bs) : NumT s r ty bs := ⟨hr, hs, .inl h⟩
theorem NumT.float {s r : ByteArray} {bs : Int} (hr : Odd r.data.toList) (hs : r.size ≤ s.size) (h : Dot r.data.toList) : NumT s r ⟨#[102, 108, 111, 97, 116]⟩ bs := ⟨hr, hs, .inr ⟨rfl, h⟩⟩
/-- What toNumber answers of such a text: no number. -/
def TnEnd (e : Ending) : Prop := ∃ v, e = .returned (.tuple #[.pointer none, v]) ∧ (v = .nilIface ∨ ∃ N, v = .iface 162 (.pointer (some ⟨N, 0, none⟩)))
theorem TnEnd.none : TnEnd (.returned (.tuple #[.pointer Option.none, .nilIface])) := ⟨_, rfl, .inl rfl⟩
theorem TnEnd.err {N : Nat} : TnEnd (.returned (.tuple #[.pointer Option.none, .iface 162 (.pointer (some ⟨N, 0, Option.none⟩))])) := ⟨_, rfl, .inr ⟨N, rfl⟩⟩

/-- The tables that the way of a number reads. -/
structure NumTabs (w : World) (b11 b10 bl : Nat) : Prop where
  glob : Glob w w.heap.size b11 b10 bl
  cheat : CheatTab w bl
  lt : 13 < w.heap.size
  errs : Errs w
theorem NumTabs.below {w w' : World} {b11 b10 bl : Nat} (h : NumTabs w b11 b10 bl) (hB : Below w.heap.size w w') : NumTabs w' b11 b10 bl :=
  ⟨(h.glob.below hB).up hB.size, h.cheat.below hB h.lt h.glob.lt.2.2.2, by have := h.lt; have := hB.size; omega, h.errs.below hB⟩

set_option maxRecDepth 100000 in
set_option maxHeartbeats 16000000 in
theorem tonum93 (s : ByteArray) (w : World) (b11 b10 bl : Nat) (hmax : s.size ≤ 2147483647) (hodd : Odd s.data.toList) (hN : NumTabs w b11 b10 bl) :
    Calls Tryz.prog 93 #[.string s] w fun e w' => TnEnd e ∧ Below w.heap.size w w' := by
  have hpos := badL_ne hodd.1
  have hz : ((s.size : Int) == 0) = false := by rw [beq_eq_false_iff_ne]; omega
  have CP : Hid (∀ s t w, Calls Tryz.prog 137 #[.string s, .string t] w fun e w' => e = .returned (.bool (preB s t)) ∧ w = w') := Lib.hid hasPre137
  have CT : Hid (∀ s t w, Calls Tryz.prog 140 #[.string s, .string t] w fun e w' => e = .returned (.string (trimB s t)) ∧ w = w') := Lib.hid trim140
  have CC := Lib.hid (count138 s ⟨#[46]⟩ w (by omega) (by decide) (by decide))
  have hT1 := trim_odd (p := ⟨#[43]⟩) (by decide) hodd
  have hT2 := trim_odd (p := ⟨#[45]⟩) (by decide) hT1.1
  obtain ⟨t2, ht2⟩ : ∃ t, trimB (trimB s ⟨#[43]⟩) ⟨#[45]⟩ = t := ⟨_, rfl⟩
  have HK : Hid (∀ c ∈ s.data.toList, c.toNat = 46 → c ∈ t2.data.toList) := Lib.hid (fun c hc h46 => by
    rw [← ht2]
    refine trim_keep (trim_keep hc ?_) ?_
    · intro h
      have : c = 43 := by simpa using h
      subst this
      cases h46
    · intro h
      have : c = 45 := by simpa using h
      subst this
      cases h46)
  rw [ht2] at hT2
  obtain ⟨n, hn⟩ : ∃ n, cnt s ⟨#[46]⟩ = n := ⟨_, rfl⟩
  have HD : Hid (0 < n → ∃ c ∈ s.data.toList, c.toNat = 46) := Lib.hid (fun h => ⟨46, cnt_mem (by rw [hn]; exact h), rfl⟩)
  rw [hn] at CC
  have HT2 := Lib.hid hT2
  have hsz2 : t2.size ≤ s.size := by have := hT2.2; have := hT1.2; omega
  have CR := Lib.hid (replace139 t2 w (by omega) hT2.1)
  have HN := Lib.hid hN
  have HTT := Lib.hid ht2
  clear hn hT1 hT2 ht2 hodd hN
  go_enter Tryz.func93, Tryz.ntmps93
  go_wp2_with (go_at_call 137; refine (CP.out _ _ _).mono ?_; rintro e w' ⟨rfl, rfl⟩)
  · go_ret2
    exact ⟨TnEnd.none, Below.refl _ _⟩
  refine CC.out.mono ?_
  rintro e w' ⟨rfl, rfl⟩
  by_cases hn1 : 1 < n
  · have hi : (1 : Int) < (n : Int) := by omega
    as_aux_lemma =>
      go_wp2_with fail
      go_ret2
      exact ⟨TnEnd.none, Below.refl _ _⟩
  have hi : ¬ (1 : Int) < (n : Int) := by omega
  go_wp2_with (first
    | (go_at_call 137; refine (CP.out _ _ _).mono ?_; rintro e w' ⟨rfl, rfl⟩)
    | (go_at_call 140; refine (CT.out _ _ _).mono ?_; rintro e w' ⟨rfl, rfl⟩))
  rw [HTT.out]
  refine CR.out.mono ?_
  rintro e w1 ⟨⟨r, rfl, hro, hrs, hrk⟩, hB⟩
  have HB := Lib.hid hB
  have HR : Hid (Odd r.data.toList ∧ (0 < n → Dot r.data.toList)) := Lib.hid ⟨hro, fun h => by
    obtain ⟨c, hc, h46⟩ := HD.out h
    exact ⟨c, hrk c (HK.out c hc h46) (by omega), h46⟩⟩
  have hrs2 : r.size ≤ s.size := by omega
  clear hB hro hrs hrk CR CC
  obtain ⟨neg, hneg⟩ : ∃ g, preB s ⟨#[45]⟩ = g := ⟨_, rfl⟩
  rw [hneg]
  clear hneg
  go_upto_block 0 with fail
  go_cut [6, 7, 8] (fun a ty bs wx => ∃ (t q : ByteArray) (x : Int), a = .string t ∧ ty = .string q ∧ bs = .int .i64 x ∧ Hid (NumT s t q x) ∧ w1 = wx)
  case first => as_aux_lemma =>
    go_wp2_with (first
      | (go_at_call 137; refine (CP.out _ _ _).mono ?_; rintro e w' ⟨rfl, rfl⟩)
      | (go_at_call 140; refine (CT.out _ _ _).mono ?_; rintro e w' ⟨rfl, rfl⟩))
    all_goals go_meet
    all_goals first
      | exact ⟨_, ⟨#[104, 101, 120]⟩, 16, rfl, rfl, rfl, Lib.hid (NumT.trim HR.out.1 hrs2 (by decide) ⟨.inl rfl, .inr (.inr (.inr rfl))⟩), rfl⟩
      | exact ⟨_, ⟨#[111, 99, 116, 101, 116]⟩, 8, rfl, rfl, rfl, Lib.hid (NumT.trim HR.out.1 hrs2 (by decide) ⟨.inr (.inl rfl), .inr (.inl rfl)⟩), rfl⟩
      | exact ⟨_, ⟨#[98, 105, 110, 97, 114, 121]⟩, 2, rfl, rfl, rfl, Lib.hid (NumT.trim HR.out.1 hrs2 (by decide) ⟨.inr (.inr (.inl rfl)), .inl rfl⟩), rfl⟩
      | exact ⟨r, ⟨#[111, 99, 116, 101, 116]⟩, 8, rfl, rfl, rfl, Lib.hid (NumT.self HR.out.1 hrs2 ⟨.inr (.inl rfl), .inr (.inl rfl)⟩), rfl⟩
      | exact ⟨r, ⟨#[100, 101, 99, 105, 109, 97, 108]⟩, 10, rfl, rfl, rfl, Lib.hid (NumT.self HR.out.1 hrs2 ⟨.inr (.inr (.inr rfl)), .inr (.inr (.inl rfl))⟩), rfl⟩
      | (have hq : ((n : Int) == 1) = true := by assumption
         have hn0 : 0 < n := by have := beq_iff_eq.1 hq; omega
         exact ⟨r, ⟨#[102, 108, 111, 97, 116]⟩, 0, rfl, rfl, rfl, Lib.hid (NumT.float HR.out.1 hrs2 (HR.out.2 hn0)), rfl⟩)
  case rest => as_aux_lemma =>
    obtain ⟨t, q, x, rfl, rfl, rfl, HT, rfl⟩ := hcut
    have htz : t.size ≤ 2147483647 := by have := HT.out.2.1; omega
    have hz1 : (⟨#[45]⟩ : ByteArray).size = 1 := rfl
    go_upto_if 63 with fail
    go_cut [9] (fun a wx => ∃ y : ByteArray, a = .string y ∧ Hid (NumX s y q x) ∧ w1 = wx)
    case first => as_aux_lemma =>
      cases neg
      · go_wp2_with fail
        go_meet
        exact ⟨t, rfl, Lib.hid HT.out.toX, rfl⟩
      · go_wp2_with fail
        go_meet
        exact ⟨⟨#[45]⟩ ++ t, rfl, Lib.hid HT.out.minus, rfl⟩
    case rest => as_aux_lemma =>
      obtain ⟨y, rfl, HY, rfl⟩ := hcut
      have hN1 := HN.out.below HB.out
      have hyz := HY.out.2.1
      rcases HY.out.2.2 with ⟨hq, hb⟩ | ⟨rfl, hdot⟩
      · have C1 := Lib.hid (pi141 y x hb (by omega) HY.out.1.1 w1 hN1.errs)
        have C2 := Lib.hid (pu142 y x hb (by omega) HY.out.1.1 w1 hN1.errs)
        clear hb hN1
        rcases hq with rfl | rfl | rfl | rfl
        all_goals
          cases neg
          · as_aux_lemma =>
              go_wp2_with fail
              refine C2.out.mono ?_
              rintro e w2 ⟨⟨v, N, rfl⟩, hB⟩
              have HB2 := Lib.hid (HB.out.trans (hB.mono HB.out.size))
              clear hB
              go_wp2_with fail
              go_ret2
              exact ⟨TnEnd.err, HB2.out⟩
          · as_aux_lemma =>
              go_wp2_with fail
              refine C1.out.mono ?_
              rintro e w2 ⟨⟨v, N, rfl⟩, hB⟩
              have HB2 := Lib.hid (HB.out.trans (hB.mono HB.out.size))
              clear hB
              go_wp2_with fail
              go_ret2
              exact ⟨TnEnd.err, HB2.out⟩
      · have C1 := Lib.hid (pf39 y w1 b11 b10 bl (by omega) HY.out.1 hdot.at hN1.glob hN1.cheat hN1.lt hN1.errs)
        clear hdot hN1
        go_wp2_with fail
        refine C1.out.mono ?_
        rintro e w2 ⟨⟨f, N, rfl⟩, hB⟩
        have HB2 := Lib.hid (HB.out.trans (hB.mono HB.out.size))
        clear hB
        go_wp2_with fail
        go_ret2
        exact ⟨TnEnd.err, HB2.out⟩

set_option maxHeartbeats 4000000 in
theorem tonum43 (s : ByteArray) (w : World) (b11 b10 bl : Nat) (hmax : s.size ≤ 2147483647) (hodd : Odd s.data.toList) (hN : NumTabs w b11 b10 bl) :
    Calls Tryz.prog 43 #[.string s] w fun e w' => e = .returned (.pointer none) ∧ Below w.heap.size w w' := by
  have C := Lib.hid (tonum93 s w b11 b10 bl hmax hodd hN)
  clear hodd hN hmax
  go_enter Tryz.func43, Tryz.ntmps43
  go_wp2_with fail
  refine C.out.mono ?_
  rintro e w' ⟨⟨v, rfl, hv⟩, hB⟩
  have H := Lib.hid hB
  clear hB
  rcases hv with rfl | ⟨N, rfl⟩
  all_goals
    go_wp2_with fail
    go_ret
    exact ⟨rfl, H.out⟩
/-- No number, as impl.ToNumber tells it. -/
def noNum : Value := .agg #[.bool false, .string ⟨#[]⟩, .string ⟨#[]⟩, .int .i64 0, .int .i64 0, .int .u64 0, .float .f64 0]
set_option maxRecDepth 100000 in
set_option maxHeartbeats 8000000 in
theorem tonum22 (s : ByteArray) (w : World) (b11 b10 bl : Nat) (hmax : s.size ≤ 2147483647) (hodd : Odd s.data.toList) (hN : NumTabs w b11 b10 bl) :
    Calls Tryz.prog 22 #[.string s] w fun e w' => e = .returned noNum ∧ Below w.heap.size w w' := by
  have C : Hid (∀ w', NumTabs w' b11 b10 bl → Calls Tryz.prog 43 #[.string s] w' fun e w2 => e = .returned (.pointer none) ∧ Below w'.heap.size w' w2) := Lib.hid (fun w' h => tonum43 s w' b11 b10 bl hmax hodd h)
  have hsf : ∀ (w : World) (a : Addr), (store a (.float .f64 0) .plain).run Tryz.prog w = stored Tryz.prog w a (.float .f64 0) .plain := fun w a => run_store Tryz.prog w a _ _ rfl
  have HN := Lib.hid hN
  clear hodd hN hmax
  go_enter Tryz.func22, Tryz.ntmps22
  go_wp2_with fail
  refine (C.out _ (HN.out.below ((Below.refl w.heap.size w).alloc (Nat.le_refl _) _))).mono ?_
  rintro e w' ⟨rfl, hB⟩
  have hb0 : Blk w' w.heap.size [.bool false, .string ⟨#[]⟩, .string ⟨#[]⟩, .int .i64 0, .int .i64 0, .int .u64 0, .float .f64 0] 39 := by
    unfold Blk
    rw [hB.block w.heap.size (by simp)]
    exact Blk.new w [.bool false, .string ⟨#[]⟩, .string ⟨#[]⟩, .int .i64 0, .int .i64 0, .int .u64 0, .float .f64 0] 39
  have o0 := hb0.cell 0 _ rfl
  have o1 := hb0.cell 1 _ rfl
  have o2 := hb0.cell 2 _ rfl
  have o3 := hb0.cell 3 _ rfl
  have o4 := hb0.cell 4 _ rfl
  have o5 := hb0.cell 5 _ rfl
  have o6 := hb0.cell 6 _ rfl
  have g0 := hb0.free 0
  have g1 := hb0.free 1
  have g2 := hb0.free 2
  have g3 := hb0.free 3
  have g4 := hb0.free 4
  have g5 := hb0.free 5
  have g6 := hb0.free 6
  have hB0 : Hid (Below w.heap.size w w') := Lib.hid (((Below.refl w.heap.size w).alloc (Nat.le_refl _) _).trans (hB.mono (by simp)))
  clear hb0 hB C
  go_wp2_with fail
  refine bodyPost_ret (v := noNum) (by simp [results, Tryz.results22, go_sem, noNum, o0, o1, o2, o3, o4, o5, o6]) rfl ⟨rfl, ?_⟩
  exact (((((((hB0.out.setCell (p := ⟨w.heap.size, 0, none⟩) (Nat.le_refl _) _).setCell (p := ⟨w.heap.size, 1, none⟩) (Nat.le_refl _) _).setCell (p := ⟨w.heap.size, 2, none⟩) (Nat.le_refl _) _).setCell (p := ⟨w.heap.size, 3, none⟩) (Nat.le_refl _) _).setCell (p := ⟨w.heap.size, 4, none⟩) (Nat.le_refl _) _).setCell (p := ⟨w.heap.size, 5, none⟩) (Nat.le_refl _) _).setCell (p := ⟨w.heap.size, 6, none⟩) (Nat.le_refl _) _)
end Go.Proofs.YtpjfmfaijcbopaaGreatDoor
