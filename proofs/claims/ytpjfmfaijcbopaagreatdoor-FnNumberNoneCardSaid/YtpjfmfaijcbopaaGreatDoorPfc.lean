/- internal/strconv.parseFloat64 gives some answer. -/
import Derived.Test.YtpjfmfaijcbopaaGreatDoorPfb
namespace Go.Proofs.YtpjfmfaijcbopaaGreatDoor
open Go.RowKit Go.Proofs

/-- Some float64 and some value. -/
def SomeFV (e : Ending) : Prop := ∃ f v, e = .returned (.tuple #[.float .f64 f, v])
theorem wrapU (x : Int) : ∃ n : Nat, IntKind.u64.wrap x = n ∧ n < 18446744073709551616 := by
  rw [IntKind.wrap_u64]
  exact ⟨(x % 18446744073709551616).toNat, by omega, by omega⟩
theorem bitLenAux_le : ∀ f x : Nat, Lib.bitLenAux f x ≤ f
  | 0, x => by unfold Lib.bitLenAux; omega
  | f + 1, x => by
    unfold Lib.bitLenAux
    have := bitLenAux_le f (x / 2)
    split <;> omega
theorem len174 (d : Nat) (w : World) (hd : d < 18446744073709551616) : Calls Tryz.prog 174 #[.int .u64 d] w fun e w' => (∃ b : Nat, e = .returned (.int .i64 b) ∧ b ≤ 64) ∧ w = w' := by
  refine (Tryz.bits_Len64 d w (by omega) (by omega)).mono ?_
  rintro e w' ⟨rfl, rfl⟩
  exact ⟨⟨_, rfl, bitLenAux_le 64 _⟩, rfl⟩
set_option maxRecDepth 100000 in
set_option maxHeartbeats 8000000 in
theorem parse219 (d p : Nat) (sg : Int) (w : World) (hd : d < 18446744073709551616) (hp : p < 696) (hT : PowTab w) :
    Calls Tryz.prog 219 #[.int .u64 d, .int .i64 (p - 348), .int .u64 sg] w fun r w' => SomeFV r ∧ Below w.heap.size w w' := by
  have C1 := Lib.hid (len174 d w hd)
  have C2 : Hid (∀ x w, Calls Tryz.prog 225 #[.int .i64 x] w fun e w' => (∃ v, e = .returned (.int .i64 v)) ∧ w = w') := Lib.hid log225
  have HT := Lib.hid hT
  clear hT
  go_enter Tryz.func219, Tryz.ntmps219
  go_wp2_with fail
  refine C1.out.mono ?_
  rintro e w' ⟨⟨b, rfl, hb⟩, rfl⟩
  clear C1
  go_wp2_with (go_at_call 225; refine (C2.out _ _).mono ?_; rintro e w' ⟨⟨lp, rfl⟩, rfl⟩)
  have hT1 : PowTab (w.alloc (Obj.cells #[Value.int IntKind.u64 0, Value.int IntKind.u64 0, Value.int IntKind.i64 0] 253)) := HT.out.below ((Below.refl w.heap.size w).alloc (Nat.le_refl _) _) HT.out.1
  have hB1 : Blk (w.alloc (Obj.cells #[Value.int IntKind.u64 0, Value.int IntKind.u64 0, Value.int IntKind.i64 0] 253)) w.heap.size [.int .u64 0, .int .u64 0, .int .i64 0] 253 := Blk.new w [.int .u64 0, .int .u64 0, .int .i64 0] 253
  refine (prescale224 w.heap.size _ _ _ _ _ p _ hp hT1 hB1 HT.out.1).mono ?_
  rintro e w1 ⟨rfl, ⟨u, v, s, hu, hv, hblk⟩, hbel⟩
  have HB : Hid (Below w.heap.size w w1) := Lib.hid (((Below.refl w.heap.size w).alloc (Nat.le_refl _) _).trans hbel)
  have c2 := hblk.cell 2 _ rfl
  have hx : Hid (∀ x : Int, Calls Tryz.prog 226 #[.int .u64 (IntKind.u64.wrap x), .pointer (some ⟨w.heap.size, 0, none⟩)] w1 fun r w' => SomeU r ∧ Below w1.heap.size w1 w') := Lib.hid (fun x => by
    obtain ⟨n, hn, hn'⟩ := wrapU x
    rw [hn]
    exact uscale226 w.heap.size n u v s w1 hn' hu hv hblk)
  have U231 := Lib.hid unmin231
  have U183 : Hid (∀ (b : Bool) w, Calls Tryz.prog 183 #[.bool b] w fun e w' => (∃ g : Int, e = .returned (.int .i64 g) ∧ 0 ≤ g ∧ g ≤ 1) ∧ w = w') := Lib.hid (fun b w => (bool183 b w).mono (by rintro e w' ⟨rfl, rfl⟩; exact ⟨⟨_, rfl, by split <;> omega, by split <;> omega⟩, rfl⟩))
  have U230 := Lib.hid round230
  have U251 := Lib.hid pack251
  have hfb := frombits
  clear hT1 hB1 hbel hblk HT
  go_wp2_with fail
  · go_ret2
    exact ⟨⟨_, _, rfl⟩, HB.out⟩
  refine (hx.out _).mono ?_
  rintro e w2 ⟨⟨q, rfl⟩, hb2⟩
  have HB2 : Hid (Below w.heap.size w w2) := Lib.hid (HB.out.trans (hb2.mono HB.out.size))
  clear hb2 hx HB
  go_wp2_with (first
    | (go_at_call 231; refine (U231.out _ _).mono ?_; rintro e w' ⟨⟨q1, rfl⟩, rfl⟩)
    | (go_at_call 183; refine (U183.out _ _).mono ?_; rintro e w' ⟨⟨g, rfl, hg0, hg1⟩, rfl⟩)
    | (go_at_call 230; refine (U230.out _ _).mono ?_; rintro e w' ⟨⟨q3, rfl⟩, rfl⟩)
    | (go_at_call 251; refine (U251.out _ _ _).mono ?_; rintro e w' ⟨⟨f, v2, rfl⟩, rfl⟩))
  go_ret2
  exact ⟨⟨_, _, rfl⟩, HB2.out⟩

/-- The tables of internal/strconv that the way of a float reads, in blocks below B. -/
structure Glob (w : World) (B b11 b10 bl : Nat) : Prop where
  pow : PowTab w
  lt : 12 < B ∧ b11 < B ∧ b10 < B ∧ bl < B
  opt : w.cell? ⟨4, 0, none⟩ = some (.bool true)
  i0 : w.cell? ⟨7, 0, none⟩ = some (.int .u64 52)
  i1 : w.cell? ⟨7, 1, none⟩ = some (.int .u64 11)
  i2 : w.cell? ⟨7, 2, none⟩ = some (.int .i64 (-1023))
  t11 : ∃ o, w.cell? ⟨11, 0, none⟩ = some (.slice (some ⟨b11, o, none⟩) 23 23) ∧ ∀ k, k < 23 → ∃ f, w.cell? ⟨b11, o + k, none⟩ = some (.float .f64 f)
  t10 : ∃ o, w.cell? ⟨10, 0, none⟩ = some (.slice (some ⟨b10, o, none⟩) 9 9) ∧ ∀ k, k < 9 → w.cell? ⟨b10, o + k, none⟩ = some (.int .i64 (([1, 3, 6, 9, 13, 16, 19, 23, 26] : List Int).getD k 0))
theorem fneg (a : Nat) : ∃ r, ∀ w, (Op.unary .neg (.float .f64 a)).run Tryz.prog w = .ok (.float .f64 r) w := ⟨_, fun _ => rfl⟩
def nanOr (a b : Nat) (o : Option Nat) : Sem Value := do
  match o with
  | some r => pure (.float .f64 r)
  | none => pure (.float .f64 (← choose (.nanBits .f64 a b)))
theorem nanOr_run (a b : Nat) (o : Option Nat) (w : World) : ∃ r w', (nanOr a b o).run Tryz.prog w = .ok (.float .f64 r) w' ∧ Below w.heap.size w w' ∧ w'.heap = w.heap := by
  cases o with
  | some r => exact ⟨r, w, rfl, Below.refl _ _, rfl⟩
  | none =>
    refine ⟨(Question.nanBits .f64 a b).cut (w.tape w.drawn (Question.nanBits .f64 a b)), w.drew, ?_, (Below.refl _ _).drew, rfl⟩
    simp only [nanOr, Sem.run_bind, run_choose_drew, Question.forced]
    rfl
theorem farith (op : BinOp) (h : op = .mul ∨ op = .quo) (a b : Nat) (w : World) : ∃ r w', (binOp op 37 (.float .f64 a) (.float .f64 b)).run Tryz.prog w = .ok (.float .f64 r) w' ∧ Below w.heap.size w w' ∧ w'.heap = w.heap := by
  rcases h with rfl | rfl
  · exact nanOr_run a b (FloatKind.f64.format.mul a b) w
  · exact nanOr_run a b (FloatKind.f64.format.div a b) w
theorem cell_heap {w w' : World} (e : w'.heap = w.heap) (p : Addr) : w'.cell? p = w.cell? p := World.cell?_of_block (by rw [e])
/-- Some float64 and some bool. -/
def SomeFB (e : Ending) : Prop := ∃ f b, e = .returned (.tuple #[.float .f64 f, .bool b])
set_option maxRecDepth 100000 in
set_option maxHeartbeats 8000000 in
theorem exact218 (d : Nat) (x : Int) (neg : Bool) (w : World) (B b11 b10 bl : Nat) (hG : Glob w B b11 b10 bl) :
    Calls Tryz.prog 218 #[.int .u64 d, .int .i64 x, .bool neg] w fun r w' => SomeFB r ∧ Below w.heap.size w w' := by
  have i0 := hG.i0
  obtain ⟨o, s11, p11⟩ := hG.t11
  have HP := Lib.hid p11
  clear p11
  obtain ⟨a0, ha0⟩ : ∃ a, floatOfInt .f64 (d : Int) = a := ⟨_, rfl⟩
  obtain ⟨a1, hneg⟩ := fneg a0
  clear hG
  by_cases hbig : ((d : Int) / 4503599627370496 != 0) = true
  · clear hneg
    go_enter Tryz.func218, Tryz.ntmps218
    go_wp2_with fail
    go_ret2
    exact ⟨⟨_, _, rfl⟩, Below.refl _ _⟩
  have hbig' : ((d : Int) / 4503599627370496 != 0) = false := by simpa using hbig
  clear hbig
  obtain ⟨a2, ha2⟩ : ∃ a2, (if neg then a1 else a0) = a2 := ⟨_, rfl⟩
  by_cases hx0 : x = 0
  · subst hx0
    go_enter Tryz.func218, Tryz.ntmps218
    go_wp2_with fail
    all_goals go_ret2
    all_goals exact ⟨⟨_, _, rfl⟩, Below.refl _ _⟩
  by_cases hlo : x < -22
  · go_enter Tryz.func218, Tryz.ntmps218
    go_wp2_with fail
    all_goals go_ret2
    all_goals exact ⟨⟨_, _, rfl⟩, Below.refl _ _⟩
  by_cases hhi : 37 < x
  · go_enter Tryz.func218, Tryz.ntmps218
    go_wp2_with fail
    all_goals go_ret2
    all_goals exact ⟨⟨_, _, rfl⟩, Below.refl _ _⟩
  by_cases hneg0 : x < 0
  · obtain ⟨k, hk⟩ : ∃ k : Nat, (-x) = k := ⟨(-x).toNat, by omega⟩
    obtain rfl : x = -(k : Int) := by omega
    have hk1 : k < 23 := by omega
    obtain ⟨f, hf⟩ := HP.out k hk1
    obtain ⟨r, w2, hq, hb, -⟩ := farith .quo (.inr rfl) a2 f w
    have HB := Lib.hid hb
    clear hb
    cases neg
    all_goals
      simp only [if_true, if_false, Bool.false_eq_true] at ha2
      subst ha2
      go_enter Tryz.func218, Tryz.ntmps218
      go_wp2_with fail
      go_ret2
      exact ⟨⟨_, _, rfl⟩, HB.out⟩
  · obtain ⟨k, hk⟩ : ∃ k : Nat, x = k := ⟨x.toNat, by omega⟩
    obtain rfl : x = (k : Int) := by omega
    by_cases h22 : k ≤ 22
    · have hk1 : k < 23 := by omega
      obtain ⟨f, hf⟩ := HP.out k hk1
      obtain ⟨r, w2, hq, hb, -⟩ := farith .mul (.inl rfl) a2 f w
      have HB := Lib.hid hb
      clear hb
      cases neg
      all_goals
        simp only [if_true, if_false, Bool.false_eq_true] at ha2
        subst ha2
        go_enter Tryz.func218, Tryz.ntmps218
        go_wp2_with fail
        all_goals go_ret2
        all_goals first | exact ⟨⟨_, _, rfl⟩, HB.out⟩ | exact ⟨⟨_, _, rfl⟩, Below.refl _ _⟩
    · obtain ⟨j, rfl⟩ : ∃ j, k = j + 22 := ⟨k - 22, by omega⟩
      obtain ⟨f, hf⟩ := HP.out j (by omega)
      obtain ⟨g, hg⟩ := HP.out 22 (by omega)
      obtain ⟨a3, w2, hq, hb, he⟩ := farith .mul (.inl rfl) a2 f w
      have hg2 := (cell_heap he ⟨b11, o + 22, none⟩).trans hg
      have s112 := (cell_heap he ⟨11, 0, none⟩).trans s11
      obtain ⟨r, w3, hq2, hb2, -⟩ := farith .mul (.inl rfl) a3 g w2
      have HB := Lib.hid hb
      have HB2 := Lib.hid (hb.trans (hb2.mono hb.size))
      have hj : j < 16 := by omega
      have hj1 : 22 < (j : Int) + 22 := by omega
      clear hb hb2 he hg hhi hneg0 hlo hk
      have hz : ((j + 22 : Nat) : Int) = (j : Int) + 22 := by omega
      rw [hz]
      clear hz h22
      cases neg
      all_goals
        simp only [if_true, if_false, Bool.false_eq_true] at ha2
        subst ha2
        go_enter Tryz.func218, Tryz.ntmps218
        go_wp2_with fail
        all_goals go_ret2
        all_goals first | exact ⟨⟨_, _, rfl⟩, HB2.out⟩ | exact ⟨⟨_, _, rfl⟩, HB.out⟩ | exact ⟨⟨_, _, rfl⟩, Below.refl _ _⟩
end Go.Proofs.YtpjfmfaijcbopaaGreatDoor
