/- The scanner's lower calls that the scanning of a quoted scalar makes. -/
import Derived.Test.YtpjfmfaijcbopaaGreatDoorComB
import Derived.Test.YtpjfmfaijcbopaaGreatDoorList
import Derived.Test.YtpjfmfaijcbopaaGreatDoorRd
import Derived.Maps.AppendAt
namespace Go.Proofs.YtpjfmfaijcbopaaGreatDoor
open Go.RowKit Go.Proofs

/-- What addOriginBuf leaves: the row lies where it lay, or in a new block. -/
def Added2 (sb cb : Nat) (s : S) (base n : Nat) (l : List Int) (r : Int) (w w' : World) : Prop :=
  ∃ g cap nso, St w' sb cb { s with obuf := .slice (some ⟨g, 0, none⟩) (n + 1) cap, nso := nso } ∧
    w'.ownsRow base 21 1 (.slice (some ⟨g, 0, none⟩) (n + 1) cap) (n + 1) (i32s (l ++ [r])) ∧ Kept (fun k => k = cb ∨ some k = s.obuf.ownBlock) w w' ∧ (s.obuf.ownBlock = some g ∨ w.heap.size ≤ g)

set_option maxHeartbeats 4000000 in
theorem addOrigin2 (sb cb : Nat) (s : S) (base n : Nat) (l : List Int) (r : Int) (w : World)
    (h : St w sb cb s) (hown : w.ownsRow base 21 1 s.obuf n (i32s l)) (hbase : base ≤ w.heap.size) (hn : n + 1 ≤ 1099511627776) :
    Calls Tryz.prog 113 #[.pointer (some ⟨cb, 0, none⟩), .int .i32 r] w fun e w' => e = .returned (.tuple #[]) ∧ Added2 sb cb s base n l r w w' := by
  obtain ⟨i0, hi, hz0, hz1, hz2⟩ := info_parts Tinfo21
  have hc6 := h.cx.cell 6 _ rfl
  have hcb := h.cx.lt
  have hs := h.sc.lt
  have HX := Lib.hid h
  have HA := Lib.hid (owns_apart hown h.cx (by decide))
  have HS := Lib.hid (owns_apart hown h.sc (by decide))
  clear h
  obtain ⟨v, hv⟩ : ∃ v, s.obuf = v := ⟨_, rfl⟩
  rw [hv] at hown hc6
  have HV := Lib.hid hv
  clear hv
  have tests : (r != 32) = false ∨ ((r != 32) = true ∧ (r != 9) = false) ∨ ((r != 32) = true ∧ (r != 9) = true) := by
    by_cases h1 : r = 32
    · exact .inl (by simp [h1])
    · by_cases h2 : r = 9
      · exact .inr (.inl (by simp [h2]))
      · exact .inr (.inr (by simp [h1, h2]))
  rcases tests with t1 | ⟨t1, t2⟩ | ⟨t1, t2⟩
  all_goals
    go_enter Tryz.func113, Tryz.ntmps113
    go_wp2_with (at_builtin; refine wpList_append_own_at _ rfl (.tmp 8) (.tmp 10) 27 rfl base 21 i0 (.int .i32 0) 1 4 Tryz.underlying27 hi hz0 hz1 hz2 rfl (by decide) _ _ _ rfl (hown.alloc _) ⟨w.heap.size, 0, none⟩ 1 1 [.int .i32 r] rfl rfl (cell_one_new _ _ _) (by intro u hu; simp at hu; subst hu; rfl) (by unfold maxLen; omega) (by omega) (by simp; omega) ?_)
    intro v' w1 hown' hgrow _ hfr
    have hst1 : St w1 sb cb s := by
      have h1 := (HX.out.sc.alloc (.cells #[.int .i32 r] 21))
      have h2 := (HX.out.cx.alloc (.cells #[.int .i32 r] 21))
      unfold Blk at h1 h2
      constructor
      · unfold Blk
        rw [hgrow.block sb (by simp; omega) (fun e => HS.out _ (by rw [HV.out]; exact e.symm) rfl)]
        exact h1
      · unfold Blk
        rw [hgrow.block cb (by simp; omega) (fun e => HA.out _ (by rw [HV.out]; exact e.symm) rfl)]
        exact h2
    have hk1 : Kept (fun k => k = cb ∨ some k = v.ownBlock) w w1 := ((Kept.refl _ w).alloc _).grown hgrow (fun k hk => .inr hk.symm)
    have hc71 := hst1.cx.cell 6 _ rfl
    have hf7 := hst1.cx.free 6
    have hc31 := hst1.cx.cell 3 _ rfl
    have hf3 := hst1.cx.free 3
    obtain ⟨g, cap, hv⟩ := ownsRow_slice hown'
    rw [i32s_one] at hown'
    rw [hv] at hown' hfr ⊢
    have HFR : Hid (s.obuf.ownBlock = some g ∨ w.heap.size ≤ g) := Lib.hid (by
      rcases hfr with h | h
      · left; rw [HV.out, ← h]; rfl
      · right; simp [Value.ownBlock] at h; omega)
    have hgc : g ≠ cb := owns_ne hown' hst1.cx (by decide)
    have HX1 := Lib.hid hst1
    have HO := Lib.hid hown'
    have HK := Lib.hid hk1
    clear hst1 hown' hk1 hgrow hown HX HA hfr
    go_wp2
    go_end0
    have HG : Hid (∀ i : Nat, (w1.setCell ⟨cb, 6, none⟩ (.slice (some ⟨g, 0, none⟩) (n + 1) cap)).ownsRow base 21 1 (.slice (some ⟨g, 0, none⟩) (n + 1) cap) (n + 1) (i32s (l ++ [r]))) :=
      Lib.hid (fun _ => owns_set HO.out ⟨cb, 6, none⟩ (fun k hk => by simp [Value.ownBlock] at hk; subst hk; exact fun h => hgc h.symm) _)
  · exact ⟨rfl, g, cap, s.nso, HX1.out.setCx 6 _ rfl rfl, HG.out 0, by rw [HV.out]; exact HK.out.setCell _ (.inl rfl) _, HFR.out⟩
  · exact ⟨rfl, g, cap, s.nso, HX1.out.setCx 6 _ rfl rfl, HG.out 0, by rw [HV.out]; exact HK.out.setCell _ (.inl rfl) _, HFR.out⟩
  · exact ⟨rfl, g, cap, ((n : Int) + 1), (HX1.out.setCx (s' := { s with obuf := .slice (some ⟨g, 0, none⟩) (n + 1) cap }) 6 _ rfl rfl).setCx 3 _ rfl rfl,
      owns_set (HG.out 0) ⟨cb, 3, none⟩ (fun k hk => by simp [Value.ownBlock] at hk; subst hk; exact fun h => hgc h.symm) _,
      by rw [HV.out]; exact (HK.out.setCell _ (.inl rfl) _).setCell _ (.inl rfl) _, HFR.out⟩

/-- What the scanning of a quoted scalar holds: p runes have been passed, no + 1 laid to the origin, and acc to the value. -/
structure QStC (B rb pb : Nat) (s0 : S) (w0 : World) (p no : Nat) (acc : List Int) (gv cv : Nat) (wr : World) (g c : Nat) (nso : Int) (l : List Int) (col off : Int) : Prop where
  st : St wr B (B + 3) { s0 with idx := p, pos := p, col := col, off := off, obuf := .slice (some ⟨g, 0, none⟩) (no + 1) c, nso := nso }
  own : wr.ownsRow (B + 4) 21 1 (.slice (some ⟨g, 0, none⟩) (no + 1) c) (no + 1) (i32s l)
  val : wr.ownsRow (B + 4) 21 1 (.slice (some ⟨gv, 0, none⟩) acc.length cv) acc.length (i32s acc)
  ne : g ≠ pb ∧ gv ≠ g ∧ gv ≠ pb
  kept : Kept (fun k => B ≤ k ∧ k ≠ rb ∧ k ≠ pb) w0 wr
def QSt (B rb pb : Nat) (s0 : S) (w0 : World) (p no : Nat) (acc : List Int) (gv cv : Nat) (wr : World) : Prop := ∃ g c nso l col off, QStC B rb pb s0 w0 p no acc gv cv wr g c nso l col off

/-- Where the blocks lie: the scanner, the runes, the tokens, the context, and the place. -/
structure Lie (B rb pb : Nat) (w0 : World) : Prop where
  hr : rb = B + 1
  hp : B + 4 ≤ pb
  hl : pb < w0.heap.size

theorem QStC.gs {B rb pb : Nat} {s0 : S} {w0 : World} {p no : Nat} {acc : List Int} {gv cv : Nat} {wr : World} {g c : Nat} {nso : Int} {l : List Int} {col off : Int} (h : QStC B rb pb s0 w0 p no acc gv cv wr g c nso l col off) :
    B + 4 ≤ g ∧ g < wr.heap.size ∧ B + 4 ≤ gv ∧ gv < wr.heap.size := ⟨(h.own.lt g rfl).1, (h.own.lt g rfl).2, (h.val.lt gv rfl).1, (h.val.lt gv rfl).2⟩

theorem QSt.add {B rb pb : Nat} {s0 : S} {w0 : World} {p no : Nat} {acc : List Int} {gv cv : Nat} {wr : World} (hL : Lie B rb pb w0) (r : Int) (h : QSt B rb pb s0 w0 p no acc gv cv wr) (hno : no ≤ 1000000) :
    Calls Tryz.prog 113 #[.pointer (some ⟨B + 3, 0, none⟩), .int .i32 r] wr fun e w' => e = .returned (.tuple #[]) ∧ QSt B rb pb s0 w0 p (no + 1) acc gv cv w' := by
  obtain ⟨g, c, nso, l, col, off, hq⟩ := h
  have hgs := hq.gs
  have hsz := hq.kept.size
  refine (addOrigin2 B (B + 3) _ (B + 4) (no + 1) l r wr hq.st hq.own (by omega) (by omega)).mono ?_
  rintro e w' ⟨he, g', c', nso', h1, h2, h3, h4⟩
  refine ⟨he, g', c', nso', _, col, off, h1, h2, h3.owns hq.val (fun k hk => ?_), ?_, ?_⟩
  · simp [Value.ownBlock] at hk
    subst hk
    rintro (h | h)
    · omega
    · simp [Value.ownBlock] at h; exact hq.ne.2.1 h
  · have hp := hL.hl
    rcases h4 with h4 | h4
    · simp [Value.ownBlock] at h4; subst h4; exact hq.ne
    · exact ⟨by omega, by omega, hq.ne.2.2⟩
  · refine hq.kept.trans (h3.mono (fun k _ hk => ?_))
    have hr := hL.hr
    have hp := hL.hp
    rcases hk with rfl | hk
    · exact ⟨by omega, by omega, by omega⟩
    · simp [Value.ownBlock] at hk; subst hk
      exact ⟨by omega, by omega, hq.ne.1⟩

theorem QSt.prog {B rb pb : Nat} {s0 : S} {w0 : World} {p no : Nat} {acc : List Int} {gv cv : Nat} {wr : World} (hL : Lie B rb pb w0) (m : Nat) (h : QSt B rb pb s0 w0 p no acc gv cv wr) (hp : p + m ≤ 1000000) :
    Calls Tryz.prog 107 #[.pointer (some ⟨B, 0, none⟩), .pointer (some ⟨B + 3, 0, none⟩), .int .i64 m] wr fun e w' => e = .returned (.tuple #[]) ∧ QSt B rb pb s0 w0 (p + m) no acc gv cv w' := by
  obtain ⟨g, c, nso, l, col, off, hq⟩ := h
  have hgs := hq.gs
  refine (progCol B (B + 3) _ m wr hq.st (by simp) (by simp) (by omega) (by simp; omega) (by simp; omega)).mono ?_
  rintro e w' ⟨he, col', off', h1, h2⟩
  refine ⟨he, g, c, nso, l, col', off', ?_, h2.owns hq.own (fun k hk => ?_), h2.owns hq.val (fun k hk => ?_), hq.ne, ?_⟩
  · simpa using h1
  · simp [Value.ownBlock] at hk; subst hk; omega
  · simp [Value.ownBlock] at hk; subst hk; omega
  · refine hq.kept.trans (h2.mono (fun k _ hk => ?_))
    have hr := hL.hr
    have hp := hL.hp
    exact ⟨by omega, by omega, by omega⟩

theorem QSt.prog1 {B rb pb : Nat} {s0 : S} {w0 : World} {p no : Nat} {acc : List Int} {gv cv : Nat} {wr : World} (hL : Lie B rb pb w0) (h : QSt B rb pb s0 w0 p no acc gv cv wr) (hp : p + 1 ≤ 1000000) :
    Calls Tryz.prog 107 #[.pointer (some ⟨B, 0, none⟩), .pointer (some ⟨B + 3, 0, none⟩), .int .i64 1] wr fun e w' => e = .returned (.tuple #[]) ∧ QSt B rb pb s0 w0 (p + 1) no acc gv cv w' := h.prog hL 1 hp
theorem QSt.prog3 {B rb pb : Nat} {s0 : S} {w0 : World} {p no : Nat} {acc : List Int} {gv cv : Nat} {wr : World} (hL : Lie B rb pb w0) (h : QSt B rb pb s0 w0 p no acc gv cv wr) (hp : p + 3 ≤ 1000000) :
    Calls Tryz.prog 107 #[.pointer (some ⟨B, 0, none⟩), .pointer (some ⟨B + 3, 0, none⟩), .int .i64 3] wr fun e w' => e = .returned (.tuple #[]) ∧ QSt B rb pb s0 w0 (p + 3) no acc gv cv w' := h.prog hL 3 hp
theorem QSt.prog5 {B rb pb : Nat} {s0 : S} {w0 : World} {p no : Nat} {acc : List Int} {gv cv : Nat} {wr : World} (hL : Lie B rb pb w0) (h : QSt B rb pb s0 w0 p no acc gv cv wr) (hp : p + 5 ≤ 1000000) :
    Calls Tryz.prog 107 #[.pointer (some ⟨B, 0, none⟩), .pointer (some ⟨B + 3, 0, none⟩), .int .i64 5] wr fun e w' => e = .returned (.tuple #[]) ∧ QSt B rb pb s0 w0 (p + 5) no acc gv cv w' := h.prog hL 5 hp

/-- A rune more of the value: what an append to it leaves. -/
theorem QSt.app {B rb pb : Nat} {s0 : S} {w0 : World} {p no : Nat} {acc : List Int} {gv cv : Nat} {wr w' : World} {x : Int} {v' : Value} (hL : Lie B rb pb w0) (h : QSt B rb pb s0 w0 p no acc gv cv wr)
    (hown : w'.ownsRow (B + 4) 21 1 v' (acc.length + 1) (i32s acc ++ [.int .i32 x])) (hg : (wr.alloc (.cells #[.int .i32 x] 21)).grownBy w' (some gv)) (hf : v'.ownBlock = some gv ∨ v'.ownBlock = some (wr.heap.size + 1)) :
    ∃ gv' cv', v' = .slice (some ⟨gv', 0, none⟩) (acc.length + 1) cv' ∧ QSt B rb pb s0 w0 p no (acc ++ [x]) gv' cv' w' := by
  obtain ⟨g, c, nso, l, col, off, hq⟩ := h
  have hgs := hq.gs
  have hsz := hq.kept.size
  have hl := hL.hl
  have hr := hL.hr
  have hp := hL.hp
  obtain ⟨gv', cv', rfl⟩ := ownsRow_slice hown
  have hk1 : Kept (fun k => k = gv) wr w' := ((Kept.refl _ wr).alloc _).grown hg (fun k hk => by simpa using hk.symm)
  have hf' : gv' = gv ∨ wr.heap.size ≤ gv' := by
    rcases hf with h | h
    · left; simpa [Value.ownBlock] using h
    · right; simp [Value.ownBlock] at h; omega
  rw [i32s_one] at hown
  refine ⟨gv', cv', rfl, g, c, nso, l, col, off, hq.st.kept hk1 (by omega) (by omega), hk1.owns hq.own (fun k hk => ?_), ?_, ?_, ?_⟩
  · simp [Value.ownBlock] at hk; subst hk; exact fun h => hq.ne.2.1 h.symm
  · simpa using hown
  · refine ⟨hq.ne.1, ?_, ?_⟩
    · rcases hf' with h | h
      · rw [h]; exact hq.ne.2.1
      · omega
    · rcases hf' with h | h
      · rw [h]; exact hq.ne.2.2
      · omega
  · refine hq.kept.trans (hk1.mono (fun k _ hk => ?_))
    exact ⟨by omega, by omega, by have := hq.ne.2.2; omega⟩
theorem QSt.val {B rb pb : Nat} {s0 : S} {w0 : World} {p no : Nat} {acc : List Int} {gv cv : Nat} {wr : World} (h : QSt B rb pb s0 w0 p no acc gv cv wr) : wr.ownsRow (B + 4) 21 1 (.slice (some ⟨gv, 0, none⟩) acc.length cv) acc.length (i32s acc) := by
  obtain ⟨g, c, nso, l, col, off, hq⟩ := h
  exact hq.val
theorem QSt.rune {B rb pb : Nat} {s0 : S} {w0 : World} {p no : Nat} {acc : List Int} {gv cv : Nat} {wr : World} (h : QSt B rb pb s0 w0 p no acc gv cv wr) {i : Nat} {v : Value} (hc : w0.cell? ⟨rb, i, none⟩ = some v) : wr.cell? ⟨rb, i, none⟩ = some v := by
  obtain ⟨g, c, nso, l, col, off, hq⟩ := h
  exact hq.kept.cell hc (fun h => h.2.1 rfl)
theorem QSt.size {B rb pb : Nat} {s0 : S} {w0 : World} {p no : Nat} {acc : List Int} {gv cv : Nat} {wr : World} (h : QSt B rb pb s0 w0 p no acc gv cv wr) : B + 4 ≤ wr.heap.size := by
  obtain ⟨g, c, nso, l, col, off, hq⟩ := h
  have := hq.gs
  omega

theorem QSt.below {B rb pb : Nat} {s0 : S} {w0 : World} {p no : Nat} {acc : List Int} {gv cv : Nat} {wr : World} (hL : Lie B rb pb w0) (h : QSt B rb pb s0 w0 p no acc gv cv wr) : Below B w0 wr := by
  obtain ⟨g, c, nso, l, col, off, hq⟩ := h
  have h1 := hL.hp
  have h2 := hL.hl
  exact hq.kept.below (by omega) (fun k hk hs => by omega)
theorem QSt.pos {B rb pb : Nat} {s0 : S} {w0 : World} {p no : Nat} {acc : List Int} {gv cv : Nat} {wr : World} {cs : List Value} {t : TypeId} (h : QSt B rb pb s0 w0 p no acc gv cv wr) (hb : Blk w0 pb cs t) : Blk wr pb cs t := by
  obtain ⟨g, c, nso, l, col, off, hq⟩ := h
  exact hq.kept.blk hb (fun h => h.2.2 rfl)

/-! ### Hex digits -/
theorem hexToInt (c : Int) (w : World) (hc : 0 ≤ c ∧ c ≤ 1114111) (h : 0 ≤ hexv c) : Calls Tryz.prog 193 #[.int .i32 c] w fun e w' => e = .returned (.int .i64 (hexv c)) ∧ w = w' := by
  obtain ⟨b, hb⟩ : ∃ b, hexv c = b := ⟨_, rfl⟩
  rw [hb] at h ⊢
  have HB := Lib.hid hb
  clear hb
  go_enter Tryz.func193, Tryz.ntmps193
  go_wp2
  all_goals go_ret
  all_goals refine ⟨ret_i64 ?_, rfl⟩
  all_goals (rw [← HB.out] at h ⊢; clear HB)
  all_goals (revert h; unfold hexv)
  all_goals (repeat' split)
  all_goals (first | omega | (intro h; omega) | (intro h; simp; omega))

set_option maxHeartbeats 4000000 in
theorem hexRunes2 (rb off c : Nat) (d0 d1 : Int) (w : World) (h0 : w.cell? ⟨rb, off, none⟩ = some (.int .i32 d0)) (h1 : w.cell? ⟨rb, off + 1, none⟩ = some (.int .i32 d1))
    (r0 : 0 ≤ d0 ∧ d0 ≤ 1114111) (r1 : 0 ≤ d1 ∧ d1 ≤ 1114111) (x0 : 0 ≤ hexv d0) (x1 : 0 ≤ hexv d1) :
    Calls Tryz.prog 149 #[.slice (some ⟨rb, off, none⟩) 2 c] w fun e w' => e = .returned (.int .i64 (hexv d0 * 16 + hexv d1)) ∧ w = w' := by
  have C0 := Lib.hid (fun w => hexToInt d0 w r0 x0)
  have C1 := Lib.hid (fun w => hexToInt d1 w r1 x1)
  have y0 := hexv_hi d0
  have y1 := hexv_hi d1
  obtain ⟨a0, ha0⟩ : ∃ a, hexv d0 = a := ⟨_, rfl⟩
  obtain ⟨a1, ha1⟩ : ∃ a, hexv d1 = a := ⟨_, rfl⟩
  rw [ha0] at C0 x0 y0 ⊢
  rw [ha1] at C1 x1 y1 ⊢
  clear ha0 ha1 r0 r1
  go_enter Tryz.func149, Tryz.ntmps149
  go_wp2_with fail
  refine wp_loop_rounds 3 ?_
  rw [rounds_succ]
  go_wp2_with (first | (go_at_call 193; refine (C0.out _).mono ?_; rintro e w' ⟨rfl, rfl⟩))
  rw [rounds_succ]
  go_wp2_with (first | (go_at_call 193; refine (C1.out _).mono ?_; rintro e w' ⟨rfl, rfl⟩))
  rw [rounds_succ]
  go_wp2_with fail
  go_ret
  refine ⟨ret_i64 ?_, rfl⟩
  omega
set_option maxHeartbeats 4000000 in
theorem hexRunes4 (rb off c : Nat) (d0 d1 d2 d3 : Int) (w : World) (h0 : w.cell? ⟨rb, off, none⟩ = some (.int .i32 d0)) (h1 : w.cell? ⟨rb, off + 1, none⟩ = some (.int .i32 d1))
    (h2 : w.cell? ⟨rb, off + 2, none⟩ = some (.int .i32 d2)) (h3 : w.cell? ⟨rb, off + 3, none⟩ = some (.int .i32 d3))
    (r0 : 0 ≤ d0 ∧ d0 ≤ 1114111) (r1 : 0 ≤ d1 ∧ d1 ≤ 1114111) (r2 : 0 ≤ d2 ∧ d2 ≤ 1114111) (r3 : 0 ≤ d3 ∧ d3 ≤ 1114111) (x0 : 0 ≤ hexv d0) (x1 : 0 ≤ hexv d1) (x2 : 0 ≤ hexv d2) (x3 : 0 ≤ hexv d3) :
    Calls Tryz.prog 149 #[.slice (some ⟨rb, off, none⟩) 4 c] w fun e w' => e = .returned (.int .i64 (((hexv d0 * 16 + hexv d1) * 16 + hexv d2) * 16 + hexv d3)) ∧ w = w' := by
  have C0 := Lib.hid (fun w => hexToInt d0 w r0 x0)
  have C1 := Lib.hid (fun w => hexToInt d1 w r1 x1)
  have C2 := Lib.hid (fun w => hexToInt d2 w r2 x2)
  have C3 := Lib.hid (fun w => hexToInt d3 w r3 x3)
  have y0 := hexv_hi d0
  have y1 := hexv_hi d1
  have y2 := hexv_hi d2
  have y3 := hexv_hi d3
  obtain ⟨a0, ha0⟩ : ∃ a, hexv d0 = a := ⟨_, rfl⟩
  obtain ⟨a1, ha1⟩ : ∃ a, hexv d1 = a := ⟨_, rfl⟩
  obtain ⟨a2, ha2⟩ : ∃ a, hexv d2 = a := ⟨_, rfl⟩
  obtain ⟨a3, ha3⟩ : ∃ a, hexv d3 = a := ⟨_, rfl⟩
  rw [ha0] at C0 x0 y0 ⊢
  rw [ha1] at C1 x1 y1 ⊢
  rw [ha2] at C2 x2 y2 ⊢
  rw [ha3] at C3 x3 y3 ⊢
  clear ha0 ha1 ha2 ha3 r0 r1 r2 r3
  go_enter Tryz.func149, Tryz.ntmps149
  go_wp2_with fail
  refine wp_loop_rounds 5 ?_
  rw [rounds_succ]
  go_wp2_with (first | (go_at_call 193; refine (C0.out _).mono ?_; rintro e w' ⟨rfl, rfl⟩))
  rw [rounds_succ]
  go_wp2_with (first | (go_at_call 193; refine (C1.out _).mono ?_; rintro e w' ⟨rfl, rfl⟩))
  rw [rounds_succ]
  go_wp2_with (first | (go_at_call 193; refine (C2.out _).mono ?_; rintro e w' ⟨rfl, rfl⟩))
  rw [rounds_succ]
  go_wp2_with (first | (go_at_call 193; refine (C3.out _).mono ?_; rintro e w' ⟨rfl, rfl⟩))
  rw [rounds_succ]
  go_wp2_with fail
  go_ret
  refine ⟨ret_i64 ?_, rfl⟩
  omega

/-! ### Tokens -/
set_option maxHeartbeats 1000000 in
theorem dquoteTok (val org : ByteArray) (p : Addr) (w : World) :
    Calls Tryz.prog 79 #[.string val, .string org, .pointer (some p)] w fun e w' => e = .returned (.pointer (some ⟨w.heap.size, 0, none⟩)) ∧ w' = w.alloc (.cells (tokCells 19 0 6 val org (.pointer (some p))).toArray 108) := by
  go_enter Tryz.func79, Tryz.ntmps79
  go_wp2
  go_ret
  exact ⟨rfl, rfl⟩
set_option maxHeartbeats 1000000 in
theorem squoteTok (val org : ByteArray) (p : Addr) (w : World) :
    Calls Tryz.prog 78 #[.string val, .string org, .pointer (some p)] w fun e w' => e = .returned (.pointer (some ⟨w.heap.size, 0, none⟩)) ∧ w' = w.alloc (.cells (tokCells 18 0 6 val org (.pointer (some p))).toArray 108) := by
  go_enter Tryz.func78, Tryz.ntmps78
  go_wp2
  go_ret
  exact ⟨rfl, rfl⟩
def invCells (err org : ByteArray) (p : Addr) : List Value := [.int .i64 33, .int .i64 4, .int .i64 0, .string org, .string org, .string err, .pointer (some p), .pointer none, .pointer none]
set_option maxHeartbeats 1000000 in
theorem invalidTok (err org : ByteArray) (p : Addr) (w : World) :
    Calls Tryz.prog 83 #[.string err, .string org, .pointer (some p)] w fun e w' => e = .returned (.pointer (some ⟨w.heap.size, 0, none⟩)) ∧ w' = w.alloc (.cells (invCells err org p).toArray 108) := by
  go_enter Tryz.func83, Tryz.ntmps83
  go_wp2
  go_ret
  exact ⟨rfl, rfl⟩
set_option maxHeartbeats 1000000 in
theorem errInvalid (p : Addr) (w : World) :
    Calls Tryz.prog 148 #[.pointer (some p)] w fun e w' => e = .returned (.pointer (some ⟨w.heap.size, 0, none⟩)) ∧ w' = w.alloc (.cells #[.pointer (some p)] 219) := by
  go_enter Tryz.func148, Tryz.ntmps148
  go_wp2
  go_ret
  exact ⟨rfl, rfl⟩
end Go.Proofs.YtpjfmfaijcbopaaGreatDoor
