/- scanComment over a line that begins with the number sign. -/
import Derived.Test.YtpjfmfaijcbopaaGreatDoorCom
namespace Go.Proofs.YtpjfmfaijcbopaaGreatDoor
open Go.RowKit

/-- What the loop of scanComment holds: j runes have been laid to the origin. -/
structure ComSt (B : Nat) (s : S) (w : World) (j : Nat) (wr : World) (g c : Nat) (nso : Int) (l : List Int) : Prop where
  st : St wr B (B + 3) { s with obuf := .slice (some ⟨g, 0, none⟩) (j + 1) c, nso := nso }
  own : wr.ownsRow w.heap.size 21 1 (.slice (some ⟨g, 0, none⟩) (j + 1) c) (j + 1) (i32s l)
  kept : Kept (fun k => k = B ∨ k = B + 3 ∨ w.heap.size ≤ k) w wr
def ComRel (B : Nat) (s : S) (w : World) (j : Nat) (wr : World) : Prop := ∃ g c nso l, ComSt B s w j wr g c nso l

theorem ComSt.ge {B : Nat} {s : S} {w : World} {j : Nat} {wr : World} {g c : Nat} {nso : Int} {l : List Int} (h : ComSt B s w j wr g c nso l) : w.heap.size ≤ g := (h.own.lt g rfl).1

/-- One rune more. -/
theorem ComSt.next {B : Nat} {s : S} {w : World} {j : Nat} {wr w' : World} {g c : Nat} {nso : Int} {l : List Int} {r : Int} (h : ComSt B s w j wr g c nso l)
    (ha : Added B (B + 3) { s with obuf := .slice (some ⟨g, 0, none⟩) (j + 1) c, nso := nso } w.heap.size (j + 1) l r wr w') : ComRel B s w (j + 1) w' := by
  obtain ⟨g', c', nso', h1, h2, h3⟩ := ha
  have hg := h.ge
  exact ⟨g', c', nso', _, h1, h2, h.kept.trans (h3.mono (fun k _ hk => by
    rcases hk with hk | hk
    · exact .inr (.inl hk)
    · simp [Value.ownBlock] at hk; subst hk; exact .inr (.inr hg)))⟩

theorem St.drewN {w : World} {sb cb : Nat} {s : S} (h : St w sb cb s) (n : Nat) : St (w.drewN n) sb cb s := ⟨h.sc, h.cx⟩
theorem ComSt.drewN {B : Nat} {s : S} {w : World} {j : Nat} {wr : World} {g c : Nat} {nso : Int} {l : List Int} (h : ComSt B s w j wr g c nso l) (n : Nat) : ComSt B s w j (wr.drewN n) g c nso l :=
  ⟨h.st.drewN n, h.own, h.kept.trans (Kept.of_below (below_drewN (Below.refl _ _) n))⟩
theorem ComSt.kept' {B : Nat} {s : S} {w : World} {j : Nat} {wr w' : World} {g c : Nat} {nso : Int} {l : List Int} (h : ComSt B s w j wr g c nso l) (k : Below wr.heap.size wr w') : ComSt B s w j w' g c nso l :=
  ⟨h.st.below k, (Kept.of_below (S := fun _ => False) k).owns h.own (by simp), h.kept.trans (Kept.of_below k)⟩
/-- A row of runes that is owned, as a string. -/
theorem convOwn {w : World} {base g n c : Nat} {l : List Int} (h : w.ownsRow base 21 1 (.slice (some ⟨g, 0, none⟩) n c) n (i32s l)) :
    (convert 27 9 (.slice (some ⟨g, 0, none⟩) n c)).run Tryz.prog w = .ok (.string (runesBytes l)) w := by
  have hl : l.length = n := by have := h.1; simp [i32s] at this; exact this
  have := run_convert_runes (P := Tryz.prog) w 27 9 21 ⟨g, 0, none⟩ n c l (by omega) Tryz.underlying27 Tryz.underlying21 Tryz.underlying9 (fun j hj => h.cells rfl j _ (by simp [i32s, List.getD, hj]))
  rw [this, List.take_of_length_le (by omega)]
theorem ComRel.drewN {B : Nat} {s : S} {w : World} {j : Nat} {wr : World} (h : ComRel B s w j wr) (n : Nat) : ComRel B s w j (wr.drewN n) := by
  obtain ⟨g, c, nso, l, h⟩ := h
  exact ⟨g, c, nso, l, h.drewN n⟩
theorem ComRel.add {B : Nat} {s : S} {w : World} {j : Nat} {wr : World} (r : Int) (h : ComRel B s w j wr) (hj : j ≤ 1000000) :
    Calls Tryz.prog 113 #[.pointer (some ⟨B + 3, 0, none⟩), .int .i32 r] wr fun e w' => e = .returned (.tuple #[]) ∧ ComRel B s w (j + 1) w' := by
  obtain ⟨g, c, nso, l, h⟩ := h
  refine (addOrigin B (B + 3) _ w.heap.size (j + 1) l r wr h.st h.own h.kept.size (by omega)).mono ?_
  rintro e w' ⟨he, ha⟩
  exact ⟨he, h.next ha⟩

theorem isNewLine' (p : Value) (c : Int) (b : Bool) (hb : b = (c == 10 || c == 13)) (w : World) :
    Calls Tryz.prog 112 #[p, .int .i32 c] w fun e w' => e = .returned (.bool b) ∧ w = w' := (isNewLine p c b hb w).mono fun _ _ ⟨h1, h2⟩ => ⟨h1, h2.symm⟩
/-- What scanComment leaves. -/
def ComEnd (B : Nat) (val : ByteArray) (passed : Int) (w w' : World) : Prop :=
  ∃ s' g c tb pb org ps, St w' B (B + 3) s' ∧ s'.pos = passed ∧ s'.toks = .slice (some ⟨g, 0, none⟩) 1 c ∧ w'.cell? ⟨g, 0, none⟩ = some (.pointer (some ⟨tb, 0, none⟩)) ∧
    Blk w' tb (tokCells 12 0 3 val org (.pointer (some ⟨pb, 0, none⟩))) 108 ∧ Blk w' pb (posCells ps) 116 ∧ Below B w w'

theorem comFin {B : Nat} {w w' w5 : World} {v' : Value} {val org : ByteArray} {tb pb : Nat} {ps s5 : S} {passed : Int} (hz : w.heap.size = B + 4)
    (h0 : Kept (fun k => B ≤ k) w w') (ho : w'.ownsRow B 56 1 v' 1 [.pointer (some ⟨tb, 0, none⟩)]) (hst : St w' B (B + 3) ps)
    (htb : Blk w' tb (tokCells 12 0 3 val org (.pointer (some ⟨pb, 0, none⟩))) 108) (hpb : Blk w' pb (posCells ps) 116)
    (hk : Kept (fun k => k = B ∨ k = B + 3) w' w5) (h5 : St w5 B (B + 3) s5) (ht : s5.toks = v') (hp : s5.pos = passed) : ComEnd B val passed w w5 := by
  obtain ⟨g, c, rfl⟩ := ownsRow_slice ho
  have hg0 := ho.cells rfl 0 _ rfl
  have hgb : g ≠ B := owns_ne ho hst.sc (by decide)
  have hgc : g ≠ B + 3 := owns_ne ho hst.cx (by decide)
  have ne : ∀ {b : Nat} {cs : List Value} {t : TypeId}, Blk w' b cs t → t ≠ 100 → t ≠ 103 → ¬ (b = B ∨ b = B + 3) := by
    intro b cs t hb h1 h2 e
    rcases e with rfl | rfl
    · have := hst.sc; unfold Blk at hb this; rw [hb] at this; simp at this; exact h1 this.2
    · have := hst.cx; unfold Blk at hb this; rw [hb] at this; simp at this; exact h2 this.2
  refine ⟨s5, g, c, tb, pb, org, ps, h5, hp, ht, hk.cell hg0 (by simp only []; omega), hk.blk htb (ne htb (by decide) (by decide)), hk.blk hpb (ne hpb (by decide) (by decide)), ?_⟩
  exact (h0.trans (hk.mono (fun k _ hk => by rcases hk with rfl | rfl <;> omega))).below (by omega) (fun k hk => by omega)

/-- The two blocks that a token's making lays, behind the token's being added. -/
theorem tokBlks {cb : Nat} {w6 w' : World} {σ : S} {val org : ByteArray}
    (hk : Kept (fun k => k = cb ∨ some k = σ.toks.ownBlock) (((w6.drew.alloc (.cells (posCells σ).toArray 116)).drew).alloc (.cells (tokCells 12 0 3 val org (.pointer (some ⟨w6.heap.size, 0, none⟩))).toArray 108)) w')
    (hc : cb < w6.heap.size) (ht : ∀ k, σ.toks.ownBlock = some k → k < w6.heap.size) :
    Blk w' w6.heap.size (posCells σ) 116 ∧ Blk w' (w6.heap.size + 1) (tokCells 12 0 3 val org (.pointer (some ⟨w6.heap.size, 0, none⟩))) 108 := by
  constructor
  · refine hk.blk (((Blk.new w6.drew (posCells σ) 116).drew).alloc _) ?_
    rintro (h | h)
    · exact absurd h (by show w6.heap.size ≠ cb; omega)
    · have := ht _ h.symm
      exact absurd this (by show ¬ w6.heap.size < w6.heap.size; omega)
  · have h := Blk.new ((w6.drew.alloc (.cells (posCells σ).toArray 116)).drew) (tokCells 12 0 3 val org (.pointer (some ⟨w6.heap.size, 0, none⟩))) 108
    have e : ((w6.drew.alloc (.cells (posCells σ).toArray 116)).drew).heap.size = w6.heap.size + 1 := by simp
    rw [e] at h
    refine hk.blk h ?_
    rintro (h | h)
    · omega
    · have := ht _ h.symm
      omega

set_option maxRecDepth 100000 in
set_option maxHeartbeats 8000000 in
theorem scanComment (B cap : Nat) (rs : List Int) (k : Nat) (w : World) (h : Ready w B rs cap) (hcap : rs.length ≤ cap) (hlen : rs.length ≤ 70368744177664) (h0 : rs.getD 0 0 = 35) (hk : k ≤ 2000) (hkl : 1 + k ≤ rs.length)
    (hno : ∀ j, j < k → rs.getD (1 + j) 0 ≠ 10 ∧ rs.getD (1 + j) 0 ≠ 13) (hend : 1 + k < rs.length → rs.getD (1 + k) 0 = 10 ∨ rs.getD (1 + k) 0 = 13)
    (hval : (runes (runesBytes ((rs.drop 1).take k))).length = k) (hvs : (runesBytes ((rs.drop 1).take k)).size ≤ 70368744177664) :
    Calls Tryz.prog 57 #[.pointer (some ⟨B, 0, none⟩), .pointer (some ⟨B + 3, 0, none⟩)] w fun e w' => e = .returned (.bool true) ∧ ComEnd B (runesBytes ((rs.drop 1).take k)) (k + 2) w w' := by
  have hz := h.size
  have ho := own_toks h
  have hst := h.st
  have hrn := h.rune
  clear h
  obtain ⟨s, hs⟩ : ∃ s, S.start (B + 1) (B + 2) rs.length cap = s := ⟨_, rfl⟩
  rw [hs] at hst
  have es : s.idx = 0 ∧ s.pos = 0 ∧ s.buf = .slice none 0 0 ∧ s.obuf = .slice none 0 0 ∧ s.toks = .slice (some ⟨B + 2, 0, none⟩) 0 0 ∧ s.nsp = 0 ∧ s.csrc = .slice (some ⟨B + 1, 0, none⟩) rs.length cap := by
    subst hs; exact ⟨rfl, rfl, rfl, rfl, rfl, rfl, rfl⟩
  obtain ⟨e1, e2, e3, e4, e5, e6, e7⟩ := es
  clear hs
  -- up to the loop
  have cE := existsBuffer B (B + 3) s w hst e3 e6
  have cA : ∀ w1, Dr w w1 → Calls Tryz.prog 104 #[.pointer (some ⟨B, 0, none⟩), .pointer (some ⟨B + 3, 0, none⟩)] w1 fun e w' => e = .returned (.tuple #[]) ∧ Below w.heap.size w w' := fun w1 hd =>
    (addBuffered B (B + 3) w1 s (hst.below (hd.below _)) e1 e3).mono (fun e w' ⟨he, hb⟩ => ⟨he, (hd.below _).trans (hb.mono (hd.below w.heap.size).size)⟩)
  have cO : ∀ w1, Below w.heap.size w w1 → Calls Tryz.prog 113 #[.pointer (some ⟨B + 3, 0, none⟩), .int .i32 35] w1 fun e w' => e = .returned (.tuple #[]) ∧ ComRel B s w 0 w' := fun w1 hb =>
    (addOrigin B (B + 3) s w.heap.size 0 [] 35 w1 (hst.below hb) (by rw [e4]; exact World.ownsRow_nil _ _ _ _) hb.size (by omega)).mono (fun e w' ⟨he, g, c, nso, h1, h2, h3⟩ =>
      ⟨he, g, c, nso, _, h1, h2, (Kept.of_below hb).trans (h3.mono (fun k _ hk => by rcases hk with hk | hk; exact .inr (.inl hk); rw [e4] at hk; simp [Value.ownBlock] at hk))⟩)
  have cP : ∀ w1, ComRel B s w 0 w1 → Calls Tryz.prog 114 #[.pointer (some ⟨B, 0, none⟩), .pointer (some ⟨B + 3, 0, none⟩), .int .i64 1] w1 fun e w' => e = .returned (.tuple #[]) ∧ ComRel B { s with idx := 1, pos := 1 } w 0 w' := fun w1 ⟨g, c, nso, l, hc⟩ =>
    (progress B (B + 3) _ 1 w1 hc.st (by simp [e1]) (by simp [e2]) (by omega) (by simp [e1]) (by simp [e2])).mono (fun e w' ⟨he, h1, h2⟩ =>
      ⟨he, g, c, nso, l, by simpa [e1, e2] using h1, h2.owns hc.own (fun k hk => by
        simp [Value.ownBlock] at hk; subst hk
        have := hc.ge
        have hlt := hst.sc.lt
        have hlt2 := hst.cx.lt
        omega), hc.kept.trans (h2.mono (fun k _ hk => by rcases hk with hk | hk; exact .inl hk; exact .inr (.inl hk)))⟩)
  have CE := Lib.hid cE
  have CA := Lib.hid cA
  have CO := Lib.hid cO
  have CP := Lib.hid cP
  clear cE cA cO cP
  obtain ⟨s1, hs1⟩ : ∃ s1 : S, { s with idx := 1, pos := 1 } = s1 := ⟨_, rfl⟩
  rw [hs1] at CP
  have es1 : s1.idx = 1 ∧ s1.pos = 1 ∧ s1.buf = .slice none 0 0 ∧ s1.toks = .slice (some ⟨B + 2, 0, none⟩) 0 0 ∧ s1.csrc = .slice (some ⟨B + 1, 0, none⟩) rs.length cap := by
    subst hs1; exact ⟨rfl, rfl, e3, e5, e7⟩
  have ES := Lib.hid es1
  have HRN := Lib.hid hrn
  have HO := Lib.hid ho
  have HZ := Lib.hid hz
  obtain ⟨val, hvl⟩ : ∃ v, runesBytes ((rs.drop 1).take k) = v := ⟨_, rfl⟩
  rw [hvl] at hval hvs ⊢
  have HVL := Lib.hid hvl
  clear hvl
  have hconv : ∃ R, ∀ w : World, (convert 9 27 (.string val)).run Tryz.prog w = .ok (.slice (some ⟨w.heap.size, 0, none⟩) k (grownCap w k 0 21)) (w.drew.alloc (.cells (R ++ Array.replicate (grownCap w k 0 21 - k) (.int .i32 0)) 21)) := by
    have hl2 := runes_length val
    have hr : (Conv.runesFrom val val.size 0 #[]).size ≤ 70368744177664 := by rw [runesFrom_runes]; simp [i32s]; omega
    have := fun (w : World) => run_runes_of_string (P := Tryz.prog) w 9 27 21 val Tryz.underlying9 Tryz.underlying27 Tryz.underlying21 hr
    rw [runesFrom_runes] at this
    have hsz : (i32s (runes val)).toArray.size = k := by simp [i32s, hval]
    rw [hsz] at this
    exact ⟨_, this⟩
  obtain ⟨R, hconv⟩ := hconv
  have HNO := Lib.hid hno
  have HEND := Lib.hid hend
  have HVAL := Lib.hid hval
  have HVS := Lib.hid hvs
  have H0 := Lib.hid h0
  clear hs1 es1 e1 e2 e3 e4 e5 e6 e7 hst hrn ho hz hno hend hval hvs h0
  go_enter Tryz.func57, Tryz.ntmps57
  go_wp2_with (first | (go_at_call 110; refine CE.out.mono ?_; rintro e w1 ⟨rfl, hd1⟩) | (go_at_call 104; refine (CA.out _ hd1).mono ?_; rintro e w2 ⟨rfl, hb2⟩) | (go_at_call 113; refine (CO.out _ hb2).mono ?_; rintro e w3 ⟨rfl, hc3⟩) | (go_at_call 114; refine (CP.out _ hc3).mono ?_; rintro e w4 ⟨rfl, hc4⟩))
  clear hd1 hb2 hc3 CE CA CO CP
  obtain ⟨g4, c4, nso4, l4, hc4⟩ := hc4
  have x4 := hc4.st.cx.cell 4 _ rfl
  have x0 := hc4.st.cx.cell 0 _ rfl
  rw [show ({ s1 with obuf := Value.slice (some ⟨g4, 0, none⟩) (0 + 1) c4, nso := nso4 } : S).csrc = s1.csrc from rfl, ES.out.2.2.2.2] at x4
  rw [show ({ s1 with obuf := Value.slice (some ⟨g4, 0, none⟩) (0 + 1) c4, nso := nso4 } : S).idx = s1.idx from rfl, ES.out.1] at x0
  have HC4 : Hid (ComRel B s1 w 0 w4) := ⟨g4, c4, nso4, l4, hc4⟩
  clear hc4
  have hsl : ∀ w : World, (Instr.slice 27 (.slice (some ⟨B + 1, 0, none⟩) rs.length cap) (some (.int .i64 (1 : Int))) none none).run Tryz.prog w = .ok (.slice (some (cut (B + 1) cap 1)) (rs.length - 1) (cap - 1)) w :=
    fun w => slice_from (B + 1) rs.length cap 1 w (by omega)
  obtain ⟨o, hcut, hro⟩ : ∃ o, cut (B + 1) cap 1 = ⟨B + 1, o, none⟩ ∧ ∀ j, 1 + j < rs.length → ∀ wr, Kept (fun k => k = B ∨ k = B + 3 ∨ w.heap.size ≤ k) w wr → wr.cell? ⟨B + 1, o + j, none⟩ = some (.int .i32 (rs.getD (1 + j) 0)) := by
    unfold cut
    by_cases hc : cap = 1
    · exact ⟨0, by rw [if_pos hc], fun j hj => by omega⟩
    · refine ⟨1, by rw [if_neg hc], fun j hj wr hk => hk.cell (HRN.out _ hj) ?_⟩
      have := HZ.out
      simp only []
      omega
  rw [hcut] at hsl
  have HRO := Lib.hid hro
  have HCUT := Lib.hid hcut
  clear hro hcut
  obtain ⟨n1, hn1⟩ : ∃ n1, rs.length = n1 + 1 := ⟨rs.length - 1, by omega⟩
  obtain ⟨c1, hc1⟩ : ∃ c1, cap = c1 + 1 := ⟨cap - 1, by omega⟩
  have HN := Lib.hid hn1
  have hnl : n1 ≤ 70368744177664 := by omega
  have hi1 : (1 : Int) ≤ (rs.length : Int) := by omega
  have hkn : k ≤ n1 := by omega
  rw [hn1] at hsl x4 hi1
  rw [show n1 + 1 - 1 = n1 by omega] at hsl
  obtain ⟨cq, hcq⟩ : ∃ cq, cap - 1 = cq := ⟨_, rfl⟩
  rw [hcq] at hsl
  clear hcq hc1
  clear hn1
  go_quiet (fail)
  go_wp2
  go_loopw [46] (fun i wr => ∃ j : Nat, j ≤ k ∧ i = .int .i64 j ∧ ComRel B s1 w j wr) (fun i _ => n1 - (intOf i).toNat)
  case atStart => exact ⟨0, Nat.zero_le _, rfl, HC4.drewN _⟩
  case round =>
    obtain ⟨j, hj, rfl, hrelj⟩ := hrel
    have HREL := Lib.hid hrelj
    clear hrelj
    by_cases hjn : j < n1
    · obtain ⟨g, cg, nso, l, hc⟩ := HREL.out
      have hcell := HRO.out j (by rw [HN.out]; omega) wr hc.kept
      obtain ⟨x, hx⟩ : ∃ x, rs.getD (1 + j) 0 = x := ⟨_, rfl⟩
      rw [hx] at hcell
      have HX := Lib.hid hx
      clear hx hc
      have cAdd := HREL.out.add x (by omega)
      by_cases hjk : j < k
      · have hnl1 : (x == 10 || x == 13) = false := by
          have := HNO.out j hjk
          rw [HX.out] at this
          simp [this]
        have HNL := Lib.hid hnl1
        clear hnl1
        go_wp2_with (first | (go_at_call 113; refine cAdd.mono ?_; rintro e w1 ⟨rfl, hr1⟩) | (go_at_call 112; refine (isNewLine' _ x false HNL.out.symm _).mono ?_; rintro e w' ⟨rfl, rfl⟩))
        go_roundw
        case rel => exact ⟨j + 1, by omega, by go_num, hr1⟩
        case measure => simp [intOf]; omega
      · obtain rfl : j = k := by omega
        have hx2 := HEND.out (by rw [HN.out]; omega)
        rw [HX.out] at hx2
        have HNL := Lib.hid (show (x == 10 || x == 13) = true by rcases hx2 with rfl | rfl <;> rfl)
        have hcell0 : ∀ wr, ComRel B s1 w (j + 1) wr → wr.cell? ⟨B + 1, 0, none⟩ = some (.int .i32 35) := by
          rintro wr ⟨g, cg, nso, l, hc⟩
          have := hc.kept.cell (HRN.out 0 (by rw [HN.out]; omega)) (by have := HZ.out; simp only []; omega)
          rw [H0.out] at this
          exact this
        have HC0 := Lib.hid hcell0
        clear hx2 hcell0
        go_wp2_with (first | (go_at_call 113; refine cAdd.mono ?_; rintro e w1 ⟨rfl, g, cg, nso, l, hr1⟩) | (go_at_call 112; refine (isNewLine' _ x true HNL.out.symm _).mono ?_; rintro e w' ⟨rfl, rfl⟩) | (go_at_call 111; refine (previousChar B (B + 3) _ (B + 1) n1 cap 35 _ hr1.st ES.out.1 (by rw [← HN.out]; exact ES.out.2.2.2.2) (HC0.out _ ⟨g, cg, nso, l, hr1⟩)).mono ?_; rintro e w' ⟨rfl, m, rfl⟩))
        have hval1 : ∀ wr, Kept (fun k => k = B ∨ k = B + 3 ∨ w.heap.size ≤ k) w wr → ∀ i, i < rs.length → wr.cell? ⟨B + 1, i, none⟩ = some (.int .i32 (rs.getD i 0)) := fun wr hk i hi =>
          hk.cell (HRN.out i hi) (by have := HZ.out; simp only []; omega)
        have HV1 := Lib.hid hval1
        have hr5 := hr1.drewN m
        obtain ⟨w5, hw5⟩ : ∃ w5, w1.drewN m = w5 := ⟨_, rfl⟩
        rw [hw5] at hr5 ⊢
        clear hw5
        have z0 := hr5.st.cx.cell 0 _ rfl
        rw [show ({ s1 with obuf := Value.slice (some ⟨g, 0, none⟩) (j + 1 + 1) cg, nso := nso } : S).idx = s1.idx from rfl, ES.out.1] at z0
        have HR5 := Lib.hid hr5
        have cS : ∀ n, Calls Tryz.prog 115 #[.pointer (some ⟨B + 3, 0, none⟩), .int .i64 (1 : Int), .int .i64 (1 + (j : Int))] (w5.drewN n) fun e w' => e = .returned (.string val) ∧ w' = w5.drewN n := fun n => by
          have := source115 B (B + 3) _ (B + 1) cap rs 1 (1 + j) (w5.drewN n) (HR5.out.st.drewN n) ES.out.2.2.2.2 (HV1.out _ (HR5.out.drewN n).kept) (by omega) (by rw [HN.out]; omega) hcap
          rw [show 1 + j - 1 = j by omega, HVL.out] at this
          refine this.mono ?_
          rintro e w' ⟨rfl, rfl⟩
          exact ⟨rfl, rfl⟩
        have CS := Lib.hid cS
        clear cS hr1 hr5 hval1 hcell HC0 cAdd
        have hw1 : IntKind.i64.wrap (1 + (j : Int)) = 1 + (j : Int) := IntWalk.i64_in _ (by omega)
        go_quiet ((go_at_call 115; exact Calls.quiet_of_same (CS.out _)))
        go_wp2
        have HR6 := Lib.hid ((HR5.out.drewN (nq + 1)).kept' ((Below.refl (w5.drewN (nq + 1)).heap.size _).alloc (Nat.le_refl _) (.cells (R ++ Array.replicate (grownCap (w5.drewN nq) j 0 21 - j) (.int .i32 0)) 21)))
        obtain ⟨w6, hw6⟩ : ∃ w6, ((w5.drewN (nq + 1)).alloc (.cells (R ++ Array.replicate (grownCap (w5.drewN nq) j 0 21 - j) (.int .i32 0)) 21)) = w6 := ⟨_, rfl⟩
        rw [hw6] at HR6 ⊢
        clear hw6
        obtain ⟨org, horg⟩ : ∃ o, runesBytes l = o := ⟨_, rfl⟩
        have hkeep : ∀ w', Kept (fun k => k = B + 3 ∨ k = B + 2) w6 w' → (convert 27 9 (.slice (some ⟨g, 0, none⟩) (j + 1 + 1) cg)).run Tryz.prog w' = .ok (.string org) w' := fun w' hk => by
          rw [← horg]
          have hg := HR6.out.ge
          have := HZ.out
          exact convOwn (hk.owns HR6.out.own (fun k hk => by simp [Value.ownBlock] at hk; subst hk; omega))
        have HKEEP := Lib.hid hkeep
        have kc0 := hkeep w6 (Kept.refl _ _)
        have z6 := HR6.out.st.cx.cell 6 _ rfl
        have lx := HR6.out.st.cx.lt
        have ls := HR6.out.st.sc.lt
        have HOK : Hid (∀ w', Kept (fun k => k = B + 3) w6 w' → w'.ownsRow B 56 1 (.slice (some ⟨B + 2, 0, none⟩) 0 0) 0 []) := Lib.hid (fun w' hk => by
          have := HZ.out
          exact (hk.owns (HR6.out.kept.owns HO.out (fun k hk => by simp [Value.ownBlock] at hk; subst hk; omega)) (fun k hk => by simp [Value.ownBlock] at hk; subst hk; omega)))
        have hB6 : B ≤ w6.heap.size := by omega
        obtain ⟨σ, hσ⟩ : ∃ σ : S, { s1 with obuf := Value.slice (some ⟨g, 0, none⟩) (j + 1 + 1) cg, nso := nso } = σ := ⟨_, rfl⟩
        have eσ : σ.toks = .slice (some ⟨B + 2, 0, none⟩) 0 0 ∧ σ.idx = 1 ∧ σ.pos = 1 ∧ σ.buf = .slice none 0 0 ∧ σ.obuf = .slice (some ⟨g, 0, none⟩) (j + 1 + 1) cg := by
          subst hσ; exact ⟨ES.out.2.2.2.1, ES.out.1, ES.out.2.1, ES.out.2.2.1, rfl⟩
        have HST6 : Hid (St w6 B (B + 3) σ) := by rw [← hσ]; exact HR6.out.st
        have Eσ := Lib.hid eσ
        clear horg hkeep hσ eσ z0
        go_region_held3 (fun w' => w'.cell? ⟨B + 3, 6, none⟩ = some (.slice (some ⟨g, 0, none⟩) (j + 1 + 1) cg) ∧ (convert 27 9 (.slice (some ⟨g, 0, none⟩) (j + 1 + 1) cg)).run Tryz.prog w' = .ok (.string org) w')
          (refine ⟨?_, HKEEP.out _ ?_⟩ <;> first | assumption | go_keep | (repeat' (first | exact Kept.refl _ _ | apply Kept.drew | apply Kept.alloc)))
          (first
            | (go_at_call 106; refine (pos106 B _ σ (HST6.out.sc.drew)).mono ?_; rintro e w' ⟨rfl, rfl⟩)
            | (go_at_call 72; refine (commentTok _ _ _ _).mono ?_; rintro e w' ⟨rfl, rfl⟩)
            | (go_at_call 105; refine (addToken B (B + 3) σ _ B 0 [] _ (((HST6.out.drew.alloc _).drew).alloc _) (by rw [Eσ.out.1]; exact HOK.out _ ((((Kept.refl _ w6).drew.alloc _).drew).alloc _)) (by simp; omega) (by omega)).mono ?_; rintro e w' ⟨v', rfl, hst2, ho2, hk2⟩; have k6 := hst2.cx.cell 6 _ rfl; rw [Eσ.out.2.2.2.2] at k6; have kk : Kept (fun k => k = B + 3 ∨ k = B + 2) w6 w' := ((((Kept.refl _ w6).drew.alloc _).drew).alloc _).trans (hk2.mono (fun k _ hk => by rcases hk with hk | hk; exact .inl hk; rw [Eσ.out.1] at hk; simp [Value.ownBlock] at hk; exact .inr hk))))
        have HS2 := Lib.hid hst2
        have HO2 := Lib.hid ho2
        have HTB := Lib.hid (tokBlks hk2 (by omega) (fun k hk => by rw [Eσ.out.1] at hk; simp [Value.ownBlock] at hk; omega))
        have HKK := Lib.hid kk
        clear hst2 ho2 hk2 kk HKEEP HOK HREL kc0 k6 z6
        go_wp2_with fail
        have cP := progCol B (B + 3) { σ with toks := v' } j w' HS2.out (by simp [Eσ.out.2.1]) (by simp [Eσ.out.2.2.1]) (by omega) (by simp [Eσ.out.2.1]; omega) (by simp [Eσ.out.2.2.1]; omega)
        refine cP.mono ?_
        rintro e w7 ⟨rfl, col, off, hst3, hk3⟩
        have HS3 := Lib.hid hst3
        have HK3 := Lib.hid hk3
        clear hst3 hk3 cP
        go_wp2_with fail
        have cL := progLine B (B + 3) _ w7 HS3.out (by simp [Eσ.out.2.1]; omega) (by simp [Eσ.out.2.2.1]; omega) (by simp [Eσ.out.2.1]; omega) (by simp [Eσ.out.2.2.1]; omega)
        refine cL.mono ?_
        rintro e w8 ⟨rfl, line, off2, hst4, hk4⟩
        have HS4 := Lib.hid hst4
        have HK4 := Lib.hid hk4
        clear hst4 hk4 cL
        go_wp2_with fail
        have cC := clear108 B (B + 3) _ w8 HS4.out Eσ.out.2.2.2.1 (.inr ⟨g, _, cg, Eσ.out.2.2.2.2⟩)
        refine cC.mono ?_
        rintro e w9 ⟨rfl, v4, m4, hst5, hk5⟩
        have HS5 := Lib.hid hst5
        have HK5 := Lib.hid hk5
        clear hst5 hk5 cC
        go_wp2
        go_ret
        refine ⟨rfl, comFin HZ.out (?_ : Kept (fun k => B ≤ k) w w') HO2.out (ps := { σ with toks := v' }) HS2.out HTB.out.2 HTB.out.1 ((HK3.out.trans HK4.out).trans (HK5.out.mono (fun k _ hk => .inr hk))) HS5.out rfl ?_⟩
        · have hz := HZ.out
          exact (HR6.out.kept.mono (fun k _ hk => by omega)).trans (HKK.out.mono (fun k _ hk => by omega))
        · simp [Eσ.out.2.2.1]; omega
    · obtain ⟨g, cg, nso, l, hc⟩ := HREL.out
      have hjk : j = n1 := by omega
      have hjk2 : j = k := by omega
      clear hjn
      have hjn : ¬ j < n1 := by omega
      subst hjk2
      have HC := Lib.hid hc
      have z0 := hc.st.cx.cell 0 _ rfl
      have z4 := hc.st.cx.cell 4 _ rfl
      rw [show ({ s1 with obuf := Value.slice (some ⟨g, 0, none⟩) (j + 1) cg, nso := nso } : S).idx = s1.idx from rfl, ES.out.1] at z0
      rw [show ({ s1 with obuf := Value.slice (some ⟨g, 0, none⟩) (j + 1) cg, nso := nso } : S).csrc = s1.csrc from rfl, ES.out.2.2.2.2, HN.out] at z4
      have kcv : ∀ n, (convert 27 9 (.slice (some ⟨B + 1, o, none⟩) n1 cq)).run Tryz.prog (wr.drewN n) = .ok (.string val) (wr.drewN n) := fun n => by
        have := conv_cut (B + 1) cap rs 1 n1 cq (wr.drewN n) (fun i hi => (HC.out.drewN n).kept.cell (HRN.out i hi) (by have := HZ.out; simp only []; omega)) (by rw [HN.out]; omega) hcap
        rw [HCUT.out, ← hjk, HVL.out, hjk] at this
        exact this
      clear hc hjk HREL x0 x4 HC4
      go_wp2
      go_quiet (fail)
      have HE6 := Lib.hid (HC.out.drewN nq)
      obtain ⟨w6, hw6⟩ : ∃ w6, wr.drewN nq = w6 := ⟨_, rfl⟩
      rw [hw6] at HE6 ⊢
      clear hw6
      obtain ⟨org, horg⟩ : ∃ o, runesBytes l = o := ⟨_, rfl⟩
      have hkeep : ∀ w', Kept (fun k => k = B + 3 ∨ k = B + 2) w6 w' → (convert 27 9 (.slice (some ⟨g, 0, none⟩) (j + 1) cg)).run Tryz.prog w' = .ok (.string org) w' := fun w' hk => by
        rw [← horg]
        have hg := HE6.out.ge
        have := HZ.out
        exact convOwn (hk.owns HE6.out.own (fun k hk => by simp [Value.ownBlock] at hk; subst hk; omega))
      have HKEEP := Lib.hid hkeep
      have kc0 := hkeep w6 (Kept.refl _ _)
      have z6 := HE6.out.st.cx.cell 6 _ rfl
      have lx := HE6.out.st.cx.lt
      have ls := HE6.out.st.sc.lt
      have HOK : Hid (∀ w', Kept (fun k => k = B + 3) w6 w' → w'.ownsRow B 56 1 (.slice (some ⟨B + 2, 0, none⟩) 0 0) 0 []) := Lib.hid (fun w' hk => by
        have := HZ.out
        exact (hk.owns (HE6.out.kept.owns HO.out (fun k hk => by simp [Value.ownBlock] at hk; subst hk; omega)) (fun k hk => by simp [Value.ownBlock] at hk; subst hk; omega)))
      have hB6 : B ≤ w6.heap.size := by omega
      obtain ⟨σ, hσ⟩ : ∃ σ : S, { s1 with obuf := Value.slice (some ⟨g, 0, none⟩) (j + 1) cg, nso := nso } = σ := ⟨_, rfl⟩
      have eσ : σ.toks = .slice (some ⟨B + 2, 0, none⟩) 0 0 ∧ σ.idx = 1 ∧ σ.pos = 1 ∧ σ.buf = .slice none 0 0 ∧ σ.obuf = .slice (some ⟨g, 0, none⟩) (j + 1) cg := by
        subst hσ; exact ⟨ES.out.2.2.2.1, ES.out.1, ES.out.2.1, ES.out.2.2.1, rfl⟩
      have HST6 : Hid (St w6 B (B + 3) σ) := by rw [← hσ]; exact HE6.out.st
      have Eσ := Lib.hid eσ
      clear horg hkeep hσ eσ z0 z4 kcv
      go_wp2_with fail
      go_region_held3 (fun w' => w'.cell? ⟨B + 3, 6, none⟩ = some (.slice (some ⟨g, 0, none⟩) (j + 1) cg) ∧ (convert 27 9 (.slice (some ⟨g, 0, none⟩) (j + 1) cg)).run Tryz.prog w' = .ok (.string org) w')
        (refine ⟨?_, HKEEP.out _ ?_⟩ <;> first | assumption | go_keep | (repeat' (first | exact Kept.refl _ _ | apply Kept.drew | apply Kept.alloc)))
        (first
          | (go_at_call 106; refine (pos106 B _ σ (HST6.out.sc.drew)).mono ?_; rintro e w' ⟨rfl, rfl⟩)
          | (go_at_call 72; refine (commentTok _ _ _ _).mono ?_; rintro e w' ⟨rfl, rfl⟩)
          | (go_at_call 105; refine (addToken B (B + 3) σ _ B 0 [] _ (((HST6.out.drew.alloc _).drew).alloc _) (by rw [Eσ.out.1]; exact HOK.out _ ((((Kept.refl _ w6).drew.alloc _).drew).alloc _)) (by simp; omega) (by omega)).mono ?_; rintro e w' ⟨v', rfl, hst2, ho2, hk2⟩; have k6 := hst2.cx.cell 6 _ rfl; rw [Eσ.out.2.2.2.2] at k6; have kk : Kept (fun k => k = B + 3 ∨ k = B + 2) w6 w' := ((((Kept.refl _ w6).drew.alloc _).drew).alloc _).trans (hk2.mono (fun k _ hk => by rcases hk with hk | hk; exact .inl hk; rw [Eσ.out.1] at hk; simp [Value.ownBlock] at hk; exact .inr hk))))
      have HS2 := Lib.hid hst2
      have HO2 := Lib.hid ho2
      have HTB := Lib.hid (tokBlks hk2 (by omega) (fun k hk => by rw [Eσ.out.1] at hk; simp [Value.ownBlock] at hk; omega))
      have HKK := Lib.hid kk
      clear hst2 ho2 hk2 kk HKEEP HOK kc0 k6 z6
      go_wp2_with fail
      have hbz : Below w'.heap.size w' (w'.alloc (.cells (R ++ Array.replicate (grownCap w' j 0 21 - j) (.int .i32 0)) 21)).drew := ((Below.refl _ _).alloc (Nat.le_refl _) _).drew
      obtain ⟨wz, hwz⟩ : ∃ wz, (w'.alloc (.cells (R ++ Array.replicate (grownCap w' j 0 21 - j) (.int .i32 0)) 21)).drew = wz := ⟨_, rfl⟩
      rw [hwz] at hbz ⊢
      clear hwz
      have HBZ := Lib.hid hbz
      clear hbz
      have cP := progCol B (B + 3) { σ with toks := v' } j wz (HS2.out.below HBZ.out) (by simp [Eσ.out.2.1]) (by simp [Eσ.out.2.2.1]) (by omega) (by simp [Eσ.out.2.1]; omega) (by simp [Eσ.out.2.2.1]; omega)
      refine cP.mono ?_
      rintro e w7 ⟨rfl, col, off, hst3, hk3⟩
      have HS3 := Lib.hid hst3
      have HK3 := Lib.hid hk3
      clear hst3 hk3 cP
      go_wp2_with fail
      have cL := progLine B (B + 3) _ w7 HS3.out (by simp [Eσ.out.2.1]; omega) (by simp [Eσ.out.2.2.1]; omega) (by simp [Eσ.out.2.1]; omega) (by simp [Eσ.out.2.2.1]; omega)
      refine cL.mono ?_
      rintro e w8 ⟨rfl, line, off2, hst4, hk4⟩
      have HS4 := Lib.hid hst4
      have HK4 := Lib.hid hk4
      clear hst4 hk4 cL
      go_wp2_with fail
      have cC := clear108 B (B + 3) _ w8 HS4.out Eσ.out.2.2.2.1 (.inr ⟨g, _, cg, Eσ.out.2.2.2.2⟩)
      refine cC.mono ?_
      rintro e w9 ⟨rfl, v4, m4, hst5, hk5⟩
      have HS5 := Lib.hid hst5
      have HK5 := Lib.hid hk5
      clear hst5 hk5 cC
      go_wp2
      go_ret
      refine ⟨rfl, comFin HZ.out (?_ : Kept (fun k => B ≤ k) w w') HO2.out (ps := { σ with toks := v' }) HS2.out HTB.out.2 HTB.out.1 (((Kept.of_below HBZ.out).trans (HK3.out.trans HK4.out)).trans (HK5.out.mono (fun k _ hk => .inr hk))) HS5.out rfl ?_⟩
      · have hz := HZ.out
        exact (HE6.out.kept.mono (fun k _ hk => by omega)).trans (HKK.out.mono (fun k _ hk => by omega))
      · simp [Eσ.out.2.2.1]; omega
end Go.Proofs.YtpjfmfaijcbopaaGreatDoor
