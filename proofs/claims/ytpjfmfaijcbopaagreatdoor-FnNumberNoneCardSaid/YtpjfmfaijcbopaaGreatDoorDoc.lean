/- Lemmas and contracts of functions of the program, for the statements of this seat: Doc. -/
import Derived.Test.YtpjfmfaijcbopaaGreatDoorBase
import Derived.Deep.RegionHeld3
import Derived.Deep.QuietTactic
import Derived.BigQuiet
import Derived.OwnWalk
namespace Go.Proofs.YtpjfmfaijcbopaaGreatDoor
open Go.RowKit

/-- Of the blocks that were there, those outside S are as they were. -/
structure Kept (S : Nat → Prop) (w w' : World) : Prop where
  os : w'.os = w.os
  tape : w'.tape = w.tape
  output : w'.output = w.output
  size : w.heap.size ≤ w'.heap.size
  block : ∀ k, k < w.heap.size → ¬ S k → w'.heap[k]? = w.heap[k]?

theorem Kept.refl (S : Nat → Prop) (w : World) : Kept S w w := ⟨rfl, rfl, rfl, Nat.le_refl _, fun _ _ _ => rfl⟩
theorem Kept.trans {S : Nat → Prop} {a b c : World} (h : Kept S a b) (k : Kept S b c) : Kept S a c :=
  ⟨k.os.trans h.os, k.tape.trans h.tape, k.output.trans h.output, Nat.le_trans h.size k.size, fun i hi hs => (k.block i (Nat.lt_of_lt_of_le hi h.size) hs).trans (h.block i hi hs)⟩
theorem Kept.mono {S T : Nat → Prop} {a b : World} (h : Kept S a b) (hs : ∀ k, k < a.heap.size → S k → T k) : Kept T a b :=
  ⟨h.os, h.tape, h.output, h.size, fun i hi ht => h.block i hi (fun s => ht (hs i hi s))⟩
theorem Kept.below {S : Nat → Prop} {a b : World} {B : Nat} (h : Kept S a b) (hB : B ≤ a.heap.size) (hs : ∀ k, k < B → ¬ S k) : Below B a b :=
  ⟨h.os, h.tape, h.output, h.size, fun i hi => h.block i (by omega) (hs i hi)⟩
theorem Kept.of_below {S : Nat → Prop} {a b : World} (h : Below a.heap.size a b) : Kept S a b := ⟨h.os, h.tape, h.output, h.size, fun i hi _ => h.block i hi⟩
theorem Kept.alloc {S : Nat → Prop} {a b : World} (h : Kept S a b) (o : Obj) : Kept S a (b.alloc o) :=
  h.trans (Kept.of_below ((Below.refl _ _).alloc (Nat.le_refl _) o))
theorem Kept.drew {S : Nat → Prop} {a b : World} (h : Kept S a b) : Kept S a b.drew := ⟨h.os, h.tape, h.output, h.size, h.block⟩
theorem Kept.setCell {S : Nat → Prop} {a b : World} (h : Kept S a b) (p : Addr) (hp : S p.block) (v : Value) : Kept S a (b.setCell p v) :=
  ⟨h.os, h.tape, h.output, by simpa using h.size, fun i hi hs => (Below.heap_setCell b p v i (fun e => hs (e ▸ hp))).trans (h.block i hi hs)⟩
theorem Kept.grown {S : Nat → Prop} {a b c : World} {row : Option Nat} (h : Kept S a b) (hg : b.grownBy c row) (hr : ∀ k, row = some k → S k) : Kept S a c :=
  ⟨hg.os.trans h.os, hg.tape.trans h.tape, hg.output.trans h.output, Nat.le_trans h.size hg.size, fun i hi hs => (hg.block i (Nat.lt_of_lt_of_le hi h.size) (fun e => hs (hr i e.symm))).trans (h.block i hi hs)⟩
theorem Kept.blk {S : Nat → Prop} {a b : World} (h : Kept S a b) {g : Nat} {cs : List Value} {t : TypeId} (hb : Blk a g cs t) (hs : ¬ S g) : Blk b g cs t := by
  have hlt : g < a.heap.size := (Array.getElem?_eq_some_iff.1 hb).1
  unfold Blk
  rw [h.block g hlt hs]; exact hb
theorem Kept.cell {S : Nat → Prop} {a b : World} (h : Kept S a b) {p : Addr} {v : Value} (hb : a.cell? p = some v) (hs : ¬ S p.block) : b.cell? p = some v :=
  (World.cell?_of_block (w := a) (h.block p.block (World.block_lt_of_cell? a p hb) hs)).trans hb
theorem Kept.owns {S : Nat → Prop} {a b : World} (h : Kept S a b) {base : Nat} {e : TypeId} {size : Nat} {v : Value} {n : Nat} {xs : List Value} (ho : a.ownsRow base e size v n xs)
    (hs : ∀ k, v.ownBlock = some k → ¬ S k) : b.ownsRow base e size v n xs := by
  refine ⟨ho.1, ?_⟩
  rcases ho.2 with hn | ⟨g, cap, cur, rfl, hb, hgg, rest⟩
  · exact .inl hn
  · refine .inr ⟨g, cap, cur, rfl, hb, ?_, rest⟩
    rw [h.block g (Array.getElem?_eq_some_iff.1 hgg).1 (hs g rfl)]
    exact hgg

theorem Blk.lt {w : World} {b : Nat} {cs : List Value} {t : TypeId} (h : Blk w b cs t) : b < w.heap.size := (Array.getElem?_eq_some_iff.1 h).1
theorem Blk.set {w : World} {b : Nat} {cs : List Value} {t : TypeId} (h : Blk w b cs t) (i : Nat) (v : Value) : Blk (w.setCell ⟨b, i, none⟩ v) b (cs.set i v) t := by
  unfold Blk at *
  simp [World.setCell, Array.getElem?_modify, h, List.setIfInBounds_toArray]
theorem Blk.set_other {w : World} {b : Nat} {cs : List Value} {t : TypeId} (h : Blk w b cs t) (p : Addr) (hp : p.block ≠ b) (v : Value) : Blk (w.setCell p v) b cs t := by
  unfold Blk at *
  rw [Below.heap_setCell w p v b (fun e => hp e.symm)]; exact h
theorem Blk.alloc {w : World} {b : Nat} {cs : List Value} {t : TypeId} (h : Blk w b cs t) (o : Obj) : Blk (w.alloc o) b cs t := by
  have := h.lt
  unfold Blk at *
  rw [Below.heap_alloc w o b this]; exact h
theorem Blk.new (w : World) (cs : List Value) (t : TypeId) : Blk (w.alloc (.cells cs.toArray t)) w.heap.size cs t := by
  show (w.heap.push _)[w.heap.size]? = _
  simp
theorem Blk.drew {w : World} {b : Nat} {cs : List Value} {t : TypeId} (h : Blk w b cs t) : Blk w.drew b cs t := h


theorem Tinfo56 : (Tryz.prog.info? 56).map (fun i => (i.zero, i.size, i.bytes)) = some (some (.pointer none), 1, 8) := by kernel_rfl
theorem Tinfo21 : (Tryz.prog.info? 21).map (fun i => (i.zero, i.size, i.bytes)) = some (some (.int .i32 0), 1, 4) := by kernel_rfl

theorem ownsRow_slice {w : World} {base : Nat} {e : TypeId} {size : Nat} {v : Value} {n : Nat} {xs : List Value} (h : w.ownsRow base e size v (n + 1) xs) :
    ∃ g cap, v = .slice (some ⟨g, 0, none⟩) (n + 1) cap := by
  rcases h.2 with ⟨_, h0⟩ | ⟨g, cap, cur, rfl, _⟩
  · omega
  · exact ⟨g, cap, rfl⟩

/-- What a scanner and its context hold (the cells that the calls here read or write). -/
structure S where
  src : Value
  pos : Int
  sz : Int
  line : Int
  col : Int
  off : Int
  ld : Int
  ind : Int
  pind : Int
  lvl : Int
  first : Bool
  idx : Int
  csz : Int
  nsp : Int
  nso : Int
  csrc : Value
  buf : Value
  obuf : Value
  toks : Value
def S.sc (s : S) : List Value :=
  [s.src, .int .i64 s.pos, .int .i64 s.sz, .int .i64 s.line, .int .i64 s.col, .int .i64 s.off, .int .i64 s.ld, .int .i64 s.ind, .int .i64 s.pind, .int .i64 s.lvl,
   .bool s.first, .bool false, .bool false, .bool false, .int .i64 0, .int .i64 0, .int .i64 0, .pointer none]
def S.cx (s : S) : List Value :=
  [.int .i64 s.idx, .int .i64 s.csz, .int .i64 s.nsp, .int .i64 s.nso, s.csrc, s.buf, s.obuf, s.toks, .pointer none]
structure St (w : World) (sb cb : Nat) (s : S) : Prop where
  sc : Blk w sb s.sc 100
  cx : Blk w cb s.cx 103
theorem St.ne {w : World} {sb cb : Nat} {s : S} (h : St w sb cb s) : sb ≠ cb := by
  rintro rfl
  have h1 := h.sc
  have h2 := h.cx
  unfold Blk at h1 h2
  rw [h1] at h2
  simp at h2
theorem St.kept {T : Nat → Prop} {w w' : World} {sb cb : Nat} {s : S} (h : St w sb cb s) (k : Kept T w w') (h1 : ¬ T sb) (h2 : ¬ T cb) : St w' sb cb s := ⟨k.blk h.sc h1, k.blk h.cx h2⟩
theorem St.below {w w' : World} {sb cb : Nat} {s : S} (h : St w sb cb s) (k : Below w.heap.size w w') : St w' sb cb s :=
  h.kept (Kept.of_below (S := fun _ => False) k) (by simp) (by simp)
def S.start (rb tb n cap : Nat) : S :=
  { src := .slice (some ⟨rb, 0, none⟩) n cap, pos := 0, sz := n, line := 1, col := 1, off := 1, ld := 0, ind := 0, pind := 0, lvl := 0, first := true, idx := 0, csz := n, nsp := 0, nso := 0,
    csrc := .slice (some ⟨rb, 0, none⟩) n cap, buf := .slice none 0 0, obuf := .slice none 0 0, toks := .slice (some ⟨tb, 0, none⟩) 0 0 }
theorem Ready.st {w : World} {B : Nat} {rs : List Int} {cap : Nat} (h : Ready w B rs cap) : St w B (B + 3) (S.start (B + 1) (B + 2) rs.length cap) := ⟨h.sc, h.cx⟩

set_option maxHeartbeats 1000000 in
theorem ctxBuf (cb : Nat) (ps : Value) (w : World) (x0 : w.cell? ⟨cb, 0, none⟩ = some (.int .i64 0)) :
    Calls Tryz.prog 194 #[.pointer (some ⟨cb, 0, none⟩), ps] w fun e w' => e = .returned (.pointer none) ∧ w' = w := by
  go_enter Tryz.func194, Tryz.ntmps194
  go_wp2
  go_ret
  exact ⟨rfl, rfl⟩

set_option maxHeartbeats 2000000 in
theorem buffered (sb cb : Nat) (w : World) (s : S) (h : St w sb cb s) (h0 : s.idx = 0) (hb : s.buf = .slice none 0 0) :
    Calls Tryz.prog 152 #[.pointer (some ⟨sb, 0, none⟩), .pointer (some ⟨cb, 0, none⟩)] w fun e w' => e = .returned (.pointer none) ∧ Below w.heap.size w w' := by
  have s17 := h.sc.cell 17 _ rfl
  have s3 := h.sc.cell 3 _ rfl
  have s4 := h.sc.cell 4 _ rfl
  have s5 := h.sc.cell 5 _ rfl
  have s7 := h.sc.cell 7 _ rfl
  have s9 := h.sc.cell 9 _ rfl
  have x0 := h.cx.cell 0 _ rfl
  have x5 := h.cx.cell 5 _ rfl
  have x8 := h.cx.cell 8 _ rfl
  rw [h0] at x0
  rw [hb] at x5
  have l5 := h.sc.lt
  have lx5 := h.cx.lt
  clear h h0 hb
  go_enter Tryz.func152, Tryz.ntmps152
  go_wp2
  go_quiet (fail)
  go_wp2
  go_region_held3 (fun w' => w'.cell? ⟨sb, 5, none⟩ = some (.int .i64 s.off) ∧ w'.cell? ⟨sb, 7, none⟩ = some (.int .i64 s.ind) ∧ w'.cell? ⟨cb, 5, none⟩ = some (.slice none 0 0) ∧ w'.cell? ⟨cb, 0, none⟩ = some (.int .i64 0))
    (go_keep)
    (first | (go_at_call 194; refine (ctxBuf _ _ _ (by go_split_ands; assumption)).mono ?_; rintro e w' ⟨rfl, rfl⟩))
  go_wp2
  go_ret
  refine ⟨rfl, ?_⟩
  exact (below_drewN (Below.refl _ _) _).alloc (Nat.le_refl _) _

/-- addToken of nothing: nothing is added. -/
theorem addNone (cb : Nat) (w : World) : Calls Tryz.prog 105 #[.pointer (some ⟨cb, 0, none⟩), .pointer none] w fun e w' => e = .returned (.tuple #[]) ∧ w' = w := by
  go_enter Tryz.func105, Tryz.ntmps105
  go_wp2
  go_returns
  exact ⟨rfl, rfl⟩

set_option maxHeartbeats 1000000 in
theorem addBuffered (sb cb : Nat) (w : World) (s : S) (h : St w sb cb s) (h0 : s.idx = 0) (hb : s.buf = .slice none 0 0) :
    Calls Tryz.prog 104 #[.pointer (some ⟨sb, 0, none⟩), .pointer (some ⟨cb, 0, none⟩)] w fun e w' => e = .returned (.tuple #[]) ∧ Below w.heap.size w w' := by
  have c := buffered sb cb w s h h0 hb
  clear h h0 hb
  go_enter Tryz.func104, Tryz.ntmps104
  go_wp2_with (first | (go_at_call 152; refine c.mono ?_; rintro e w' ⟨rfl, hb⟩) | (go_at_call 105; refine (addNone _ _).mono ?_; rintro e w' ⟨rfl, rfl⟩))
  go_end0
  exact ⟨rfl, hb⟩

def posCells (s : S) : List Value := [.int .i64 s.line, .int .i64 s.col, .int .i64 s.off, .int .i64 s.ind, .int .i64 s.lvl]
set_option maxHeartbeats 1000000 in
theorem pos106 (sb : Nat) (w : World) (s : S) (h : Blk w sb s.sc 100) :
    Calls Tryz.prog 106 #[.pointer (some ⟨sb, 0, none⟩)] w fun e w' => e = .returned (.pointer (some ⟨w.heap.size, 0, none⟩)) ∧
      w' = (w.alloc (.cells (posCells s).toArray 116)).drew := by
  have s3 := h.cell 3 _ rfl
  have s4 := h.cell 4 _ rfl
  have s5 := h.cell 5 _ rfl
  have s7 := h.cell 7 _ rfl
  have s9 := h.cell 9 _ rfl
  have l3 := h.lt
  clear h
  go_enter Tryz.func106, Tryz.ntmps106
  go_wp2
  go_region_held3 (fun w' => w'.cell? ⟨sb, 3, none⟩ = some (.int .i64 s.line) ∧ w'.cell? ⟨sb, 4, none⟩ = some (.int .i64 s.col) ∧ w'.cell? ⟨sb, 5, none⟩ = some (.int .i64 s.off) ∧ w'.cell? ⟨sb, 7, none⟩ = some (.int .i64 s.ind) ∧ w'.cell? ⟨sb, 9, none⟩ = some (.int .i64 s.lvl))
    (go_keep) (fail)
  go_wp2
  go_ret
  exact ⟨rfl, rfl⟩

theorem owns_ne {w : World} {base : Nat} {e : TypeId} {size g n cap : Nat} {xs : List Value} {b : Nat} {cs : List Value} {t : TypeId} (h : w.ownsRow base e size (.slice (some ⟨g, 0, none⟩) (n + 1) cap) (n + 1) xs)
    (hb : Blk w b cs t) (ht : e ≠ t) : g ≠ b := by
  rcases h.2 with ⟨hv, _⟩ | ⟨g', cap', cur, hv, _, hg, _⟩
  · cases hv
  · cases hv
    rintro rfl
    unfold Blk at hb
    rw [hb] at hg
    cases hg
    exact ht rfl
/-- A row that is owned lies not where a block of another type lies. -/
theorem owns_apart {w : World} {base : Nat} {e : TypeId} {size n : Nat} {v : Value} {xs : List Value} {b : Nat} {cs : List Value} {t : TypeId} (h : w.ownsRow base e size v n xs)
    (hb : Blk w b cs t) (ht : e ≠ t) : ∀ k, v.ownBlock = some k → k ≠ b := by
  rcases h.2 with ⟨rfl, _⟩ | ⟨g, cap, cur, rfl, _, hg, _⟩
  · intro k hk; simp [Value.ownBlock] at hk
  · intro k hk
    simp [Value.ownBlock] at hk
    subst hk
    rintro rfl
    unfold Blk at hb
    rw [hb] at hg
    cases hg
    exact ht rfl
theorem owns_set {w : World} {base : Nat} {e : TypeId} {size n : Nat} {v : Value} {xs : List Value} (h : w.ownsRow base e size v n xs) (p : Addr) (hp : ∀ k, v.ownBlock = some k → p.block ≠ k) (u : Value) :
    (w.setCell p u).ownsRow base e size v n xs :=
  (Kept.setCell (S := fun k => k = p.block) (Kept.refl _ w) p rfl u).owns h (fun k hk e => hp k hk e.symm)

set_option maxHeartbeats 2000000 in
theorem addToken (sb cb : Nat) (s : S) (p : Addr) (base n : Nat) (xs : List Value) (w : World)
    (h : St w sb cb s) (hown : w.ownsRow base 56 1 s.toks n xs) (hbase : base ≤ w.heap.size) (hn : n + 1 ≤ 1000) :
    Calls Tryz.prog 105 #[.pointer (some ⟨cb, 0, none⟩), .pointer (some p)] w fun e w' => ∃ v', e = .returned (.tuple #[]) ∧ St w' sb cb { s with toks := v' } ∧
      w'.ownsRow base 56 1 v' (n + 1) (xs ++ [.pointer (some p)]) ∧ Kept (fun k => k = cb ∨ some k = s.toks.ownBlock) w w' := by
  obtain ⟨i0, hi, hz0, hz1, hz2⟩ := info_parts Tinfo56
  have hc7 := h.cx.cell 7 _ rfl
  have hcb := h.cx.lt
  have hs := h.sc.lt
  have hap := owns_apart hown h.cx (by decide)
  have has := owns_apart hown h.sc (by decide)
  have HX := Lib.hid h
  have HA := Lib.hid hap
  have HS := Lib.hid has
  clear h hap has
  obtain ⟨v, hv⟩ : ∃ v, s.toks = v := ⟨_, rfl⟩
  rw [hv] at hown hc7
  have HV := Lib.hid hv
  clear hv
  go_enter Tryz.func105, Tryz.ntmps105
  go_wp2_with (at_builtin; refine wpList_append_own _ rfl _ _ 52 rfl base 56 i0 (.pointer none) 1 8 Tryz.underlying52 hi hz0 hz1 hz2 rfl (by decide) _ _ _ rfl (hown.alloc _) ⟨w.heap.size, 0, none⟩ 1 1 [.pointer (some p)] rfl rfl ?c1 ?c2 ?c3 ?c4 ?c5 ?_)
  case c1 => exact cell_one_new _ _ _
  case c2 => intro u hu; simp at hu; subst hu; rfl
  case c3 => unfold maxLen; omega
  case c4 => omega
  case c5 => simp; omega
  intro v' w1 hown' hgrow _
  have hst1 : St w1 sb cb s := by
    have h1 := (HX.out.sc.alloc (.cells #[.pointer (some p)] 56))
    have h2 := (HX.out.cx.alloc (.cells #[.pointer (some p)] 56))
    unfold Blk at h1 h2
    constructor
    · unfold Blk
      rw [hgrow.block sb (by simp; omega) (fun e => HS.out _ (by rw [HV.out]; exact e.symm) rfl)]
      exact h1
    · unfold Blk
      rw [hgrow.block cb (by simp; omega) (fun e => HA.out _ (by rw [HV.out]; exact e.symm) rfl)]
      exact h2
  have hk1 : Kept (fun k => k = cb ∨ some k = v.ownBlock) w w1 := ((Kept.refl _ w).alloc _).grown hgrow (fun k hk => .inr hk.symm)
  have hcb1 := hst1.cx.lt
  have hc71 := hst1.cx.cell 7 _ rfl
  have hf7 := hst1.cx.free 7
  obtain ⟨g, cap, hv⟩ := ownsRow_slice hown'
  rw [hv] at hown' ⊢
  have HX1 := Lib.hid hst1
  have HO := Lib.hid hown'
  have HK := Lib.hid hk1
  clear hst1 hown' hk1 hgrow hown HX HA
  go_wp2
  go_end0
  have hgc : g ≠ cb := owns_ne HO.out HX1.out.cx (by decide)
  refine ⟨.slice (some ⟨g, 0, none⟩) (n + 1) cap, rfl, ⟨HX1.out.sc.set_other _ (fun e => HX1.out.ne e.symm) _, HX1.out.cx.set 7 _⟩, owns_set HO.out ⟨cb, 7, none⟩ (fun k hk => by simp [Value.ownBlock] at hk; subst hk; exact fun h => hgc h.symm) _, ?_⟩
  rw [HV.out]
  exact HK.out.setCell _ (.inl rfl) _
end Go.Proofs.YtpjfmfaijcbopaaGreatDoor
