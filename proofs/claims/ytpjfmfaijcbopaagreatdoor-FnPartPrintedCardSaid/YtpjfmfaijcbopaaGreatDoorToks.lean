/- impl.made: the tokens behind the rows. -/
import Derived.Test.YtpjfmfaijcbopaaGreatDoorMade
import Derived.Outline
namespace Go.Proofs.YtpjfmfaijcbopaaGreatDoor
open Go.RowKit

/-- The row of the i-th string. -/
def rowOf (i : Nat) (o : ByteArray) : List Value := tokOut 31 2 0 o o ⟨#[]⟩ 1 ((i : Int) + 1) 0 0 0

/-- n tokens, made of the strings o. -/
structure Toks (base n : Nat) (o : Nat → ByteArray) (w : World) (v : Value) (xs : List Value) : Prop where
  own : w.ownsRow base 56 1 v n xs
  tok : ∀ j, j < n → ∃ tb pb, xs[j]? = some (.pointer (some ⟨tb, 0, none⟩)) ∧ Blk w tb (tokC 31 2 0 (o j) (o j) ⟨#[]⟩ (.pointer (some ⟨pb, 0, none⟩))) 108 ∧ Blk w pb (ints5 1 ((j : Int) + 1) 0 0 0) 116

theorem Toks.kept {base n : Nat} {o : Nat → ByteArray} {w w' : World} {v : Value} {xs : List Value} {S : Nat → Prop} (h : Toks base n o w v xs) (k : Kept S w w') (hS : ∀ i, i < w.heap.size → ¬ S i) : Toks base n o w' v xs :=
  ⟨k.owns h.own (fun i hi => hS i (h.own.lt i hi).2), fun j hj => by
    obtain ⟨tb, pb, h1, h2, h3⟩ := h.tok j hj
    exact ⟨tb, pb, h1, k.blk h2 (hS tb h2.lt), k.blk h3 (hS pb h3.lt)⟩⟩
theorem Toks.below {base n : Nat} {o : Nat → ByteArray} {w w' : World} {v : Value} {xs : List Value} (h : Toks base n o w v xs) (k : Below w.heap.size w w') : Toks base n o w' v xs :=
  h.kept (Kept.of_below (S := fun _ => False) k) (fun _ _ h => h)

theorem owns_blk_ne {w : World} {base : Nat} {e : TypeId} {size n : Nat} {v : Value} {xs : List Value} {b g : Nat} {cs : List Value} {t : TypeId} (h : w.ownsRow base e size v n xs) (hg : v.ownBlock = some g)
    (hb : Blk w b cs t) (ht : e ≠ t) : g ≠ b := by
  rcases h.2 with ⟨rfl, _⟩ | ⟨g', cap', cur, rfl, _, hh, _⟩
  · cases hg
  · obtain rfl : g' = g := by simpa [Value.ownBlock] using hg
    rintro rfl
    unfold Blk at hb
    rw [hb] at hh
    cases hh
    exact ht rfl

/-- One token more. -/
theorem Toks.next {base k : Nat} {o : Nat → ByteArray} {w1 w2 w3 : World} {v v' : Value} {xs : List Value} {s : ByteArray} {pb : Nat} (h : Toks base k o w1 v xs) (hk : Kept (fun _ => False) w1 w2) (hs : o k = s)
    (hpb : Blk w2 pb (ints5 1 ((k : Int) + 1) 0 0 0) 116)
    (hgrow : ((w2.alloc (.cells (tokC 31 2 0 s s ⟨#[]⟩ (.pointer (some ⟨pb, 0, none⟩))).toArray 108)).alloc (.cells #[.pointer (some ⟨w2.heap.size, 0, none⟩)] 56)).grownBy w3 v.ownBlock)
    (hown : w3.ownsRow base 56 1 v' (k + 1) (xs ++ [.pointer (some ⟨w2.heap.size, 0, none⟩)])) : Toks base (k + 1) o w3 v' (xs ++ [.pointer (some ⟨w2.heap.size, 0, none⟩)]) := by
  subst hs
  have hlen : xs.length = k := by have := h.own.1; omega
  have hT : Toks base k o w2 v xs := h.kept hk (fun _ _ h => h)
  have hk0 : Kept (fun _ => False) w2 ((w2.alloc (.cells (tokC 31 2 0 (o k) (o k) ⟨#[]⟩ (.pointer (some ⟨pb, 0, none⟩))).toArray 108)).alloc (.cells #[.pointer (some ⟨w2.heap.size, 0, none⟩)] 56)) := ((Kept.refl _ _).alloc _).alloc _
  have hk3 : Kept (fun k => v.ownBlock = some k) ((w2.alloc (.cells (tokC 31 2 0 (o k) (o k) ⟨#[]⟩ (.pointer (some ⟨pb, 0, none⟩))).toArray 108)).alloc (.cells #[.pointer (some ⟨w2.heap.size, 0, none⟩)] 56)) w3 := (Kept.refl _ _).grown hgrow (fun k hk => hk)
  have hT3 := hT.kept hk0 (fun _ _ h => h)
  have htok : Blk ((w2.alloc (.cells (tokC 31 2 0 (o k) (o k) ⟨#[]⟩ (.pointer (some ⟨pb, 0, none⟩))).toArray 108)).alloc (.cells #[.pointer (some ⟨w2.heap.size, 0, none⟩)] 56)) w2.heap.size _ 108 := (Blk.new w2 _ 108).alloc _
  have ne : ∀ {b : Nat} {cs : List Value} {t : TypeId}, Blk ((w2.alloc (.cells (tokC 31 2 0 (o k) (o k) ⟨#[]⟩ (.pointer (some ⟨pb, 0, none⟩))).toArray 108)).alloc (.cells #[.pointer (some ⟨w2.heap.size, 0, none⟩)] 56)) b cs t → (56 : TypeId) ≠ t → ¬ v.ownBlock = some b :=
    fun hb ht he => owns_blk_ne hT3.own he hb ht rfl
  refine ⟨hown, fun j hj => ?_⟩
  by_cases hjk : j < k
  · obtain ⟨tb, pb', h1, h2, h3⟩ := hT3.tok j hjk
    exact ⟨tb, pb', by rw [List.getElem?_append_left (by omega)]; exact h1, hk3.blk h2 (ne h2 (by decide)), hk3.blk h3 (ne h3 (by decide))⟩
  · obtain rfl : j = k := by omega
    have hp := hk0.blk hpb (fun h => h)
    exact ⟨w2.heap.size, pb, by rw [List.getElem?_append_right (by omega), hlen]; simp, hk3.blk htok (ne htok (by decide)), hk3.blk hp (ne hp (by decide))⟩

attribute [-go_sem] Instr.build
set_option maxRecDepth 100000 in
set_option maxHeartbeats 4000000 in
theorem made38 (g c n : Nat) (o : Nat → ByteArray) (w : World) (hn : n ≤ 100) (hc : n ≤ c) (hrow : ∀ j, j < n → ∀ r u, (rowOf j (o j))[r]? = some u → w.cell? ⟨g, j * 13 + r, none⟩ = some u) :
    Calls Tryz.prog 38 #[.slice (some ⟨g, 0, none⟩) n c] w fun e w' => ∃ v xs, e = .returned v ∧ Toks w.heap.size n o w' v xs ∧ Below w.heap.size w w' := by
  obtain ⟨i0, hi, hzz, hz1', hz2⟩ := info_parts Tinfo56
  have HROW := Lib.hid hrow
  clear hrow
  go_enter Tryz.func38, Tryz.ntmps38
  go_wp2_with fail
  have hz0 : (w.alloc (.cells #[] 56)).heap.size = w.heap.size + 1 := by simp
  have h0 : Toks w.heap.size 0 o (w.alloc (.cells #[] 56)) (.slice (some ⟨w.heap.size, 0, none⟩) 0 0) [] :=
    ⟨⟨rfl, .inr ⟨w.heap.size, 0, #[], rfl, Nat.le_refl _, Blk.new w [] 56, Nat.le_refl _, by unfold maxLen; omega, rfl, rfl⟩⟩, fun j hj => by omega⟩
  have b0 : Below w.heap.size w (w.alloc (.cells #[] 56)) := (Below.refl _ _).alloc (Nat.le_refl _) _
  go_loopw [11, 3] (fun i l wr => ∃ k : Nat, k ≤ n ∧ i = .int .i64 k ∧ (∃ xs, Toks w.heap.size k o wr l xs) ∧ Below w.heap.size w wr) (fun i _ _ => n - (intOf i).toNat)
  case atStart => exact ⟨0, Nat.zero_le _, rfl, ⟨[], h0⟩, b0⟩
  case round =>
    obtain ⟨k, hk, rfl, ⟨xs, ht⟩, hb⟩ := hrel
    by_cases hkn : k < n
    · have HT := Lib.hid ht
      have HB := Lib.hid hb
      have hcell : ∀ r u, (rowOf k (o k))[r]? = some u → wr.cell? ⟨g, k * 13 + r, none⟩ = some u := fun r u hu =>
        (Kept.of_below (S := fun _ => False) hb).cell (HROW.out k hkn r u hu) (fun h => h)
      obtain ⟨s, hs⟩ : ∃ s, o k = s := ⟨_, rfl⟩
      rw [hs] at hcell
      have c0 : wr.cell? ⟨g, k * 13, none⟩ = _ := hcell 0 _ rfl
      have c1 := hcell 1 _ rfl
      have c2 := hcell 2 _ rfl
      have c3 := hcell 3 _ rfl
      have c4 := hcell 4 _ rfl
      have c5 := hcell 5 _ rfl
      have c6 := hcell 6 _ rfl
      have c7 := hcell 7 _ rfl
      have c8 := hcell 8 _ rfl
      have c9 := hcell 9 _ rfl
      have c10 := hcell 10 _ rfl
      have c11 := hcell 11 _ rfl
      have c12 := hcell 12 _ rfl
      have HO := Lib.hid hs
      have hsz := hb.size
      have HTL := Lib.hid (fun k hk => (ht.own.lt k hk).2)
      clear hs hcell ht hb
      go_wp2_with fail
      have hr1 := Blk.new wr (rowOf k s) 31
      have ht1 := HT.out.below ((Below.refl _ _).alloc (Nat.le_refl _) (.cells (rowOf k s).toArray 31))
      have hb1 := HB.out.alloc HB.out.size (.cells (rowOf k s).toArray 31)
      have hz1 : (wr.alloc (.cells (rowOf k s).toArray 31)).heap.size = wr.heap.size + 1 := by simp
      obtain ⟨w1, hw1⟩ : ∃ w1, wr.alloc (.cells (rowOf k s).toArray 31) = w1 := ⟨_, rfl⟩
      rw [hw1] at hr1 ht1 hb1 hz1
      rw [show wr.alloc (.cells #[.int .i64 31, .int .i64 2, .int .i64 0, .string s, .string s, .string ⟨#[]⟩, .int .i64 1, .int .i64 ((k : Int) + 1), .int .i64 0, .int .i64 0, .int .i64 0, .int .i64 (-1), .int .i64 (-1)] 31) = w1 from hw1]
      clear hw1 c0 c1 c2 c3 c4 c5 c6 c7 c8 c9 c10 c11 c12
      have d0 := hr1.cell 0 _ rfl
      have d1 := hr1.cell 1 _ rfl
      have d2 := hr1.cell 2 _ rfl
      have d3 := hr1.cell 3 _ rfl
      have d4 := hr1.cell 4 _ rfl
      have d5 := hr1.cell 5 _ rfl
      have d6 := hr1.cell 6 _ rfl
      have d7 := hr1.cell 7 _ rfl
      have d8 := hr1.cell 8 _ rfl
      have d9 := hr1.cell 9 _ rfl
      have d10 := hr1.cell 10 _ rfl
      have n0 := World.new_ne w1 _ d0
      have CP : Hid (∀ w, Calls Tryz.prog 36 #[.agg #[.int .i64 1, .int .i64 ((k : Int) + 1), .int .i64 0, .int .i64 0, .int .i64 0]] w fun e w' => ∃ g, e = .returned (.pointer (some ⟨g, 0, none⟩)) ∧ w.heap.size ≤ g ∧ Blk w' g (ints5 1 ((k : Int) + 1) 0 0 0) 116 ∧ Below w.heap.size w w') :=
        Lib.hid (fun w => position36 1 ((k : Int) + 1) 0 0 0 w (by omega) (by omega) (by omega) (by omega))
      have hbuild : ∀ (w : World) (p : Addr), (Instr.build 108 #[(0, .int .i64 31), (1, .int .i64 2), (2, .int .i64 0), (3, .string s), (4, .string s), (5, .string ⟨#[]⟩), (6, .pointer (some p))]).run Tryz.prog w = .ok (.agg (tokC 31 2 0 s s ⟨#[]⟩ (.pointer (some p))).toArray) w :=
        fun w p => run_build (P := Tryz.prog) w 108 _ _ (by kernel_rfl)
      have HT1 := Lib.hid ht1
      have HB1 := Lib.hid hb1
      have HR1 := Lib.hid hr1
      clear ht1 hb1 hr1 HT HB
      go_region_held3 (fun w' => w'.cell? ⟨wr.heap.size, 0, none⟩ = some (.int .i64 31) ∧ w'.cell? ⟨wr.heap.size, 1, none⟩ = some (.int .i64 2) ∧ w'.cell? ⟨wr.heap.size, 2, none⟩ = some (.int .i64 0) ∧ w'.cell? ⟨wr.heap.size, 3, none⟩ = some (.string s) ∧ w'.cell? ⟨wr.heap.size, 4, none⟩ = some (.string s) ∧ w'.cell? ⟨wr.heap.size, 5, none⟩ = some (.string ⟨#[]⟩) ∧ w'.cell? ⟨wr.heap.size, 6, none⟩ = some (.int .i64 1) ∧ w'.cell? ⟨wr.heap.size, 7, none⟩ = some (.int .i64 ((k : Int) + 1)) ∧ w'.cell? ⟨wr.heap.size, 8, none⟩ = some (.int .i64 0) ∧ w'.cell? ⟨wr.heap.size, 9, none⟩ = some (.int .i64 0) ∧ w'.cell? ⟨wr.heap.size, 10, none⟩ = some (.int .i64 0))
        (first
          | go_keep
          | exact ⟨hd2 _ _ d0, hd2 _ _ d1, hd2 _ _ d2, hd2 _ _ d3, hd2 _ _ d4, hd2 _ _ d5, hd2 _ _ d6, hd2 _ _ d7, hd2 _ _ d8, hd2 _ _ d9, hd2 _ _ d10⟩
          | exact ⟨hd3 _ _ d0, hd3 _ _ d1, hd3 _ _ d2, hd3 _ _ d3, hd3 _ _ d4, hd3 _ _ d5, hd3 _ _ d6, hd3 _ _ d7, hd3 _ _ d8, hd3 _ _ d9, hd3 _ _ d10⟩)
        (first
          | (go_at_call 36; refine (CP.out _).mono ?_; rintro e w2 ⟨pb, rfl, hpg, hpb, hb2⟩;
              have hk2 : Kept (fun _ => False) w1 w2 := Kept.of_below (a := w1) ⟨hb2.os, hb2.tape, hb2.output, hb2.size, hb2.block⟩;
              have hd2 : ∀ i v, w1.cell? ⟨wr.heap.size, i, none⟩ = some v → w2.cell? ⟨wr.heap.size, i, none⟩ = some v := fun i v h => hk2.cell h (fun h => h);
              have n2 := World.new_ne w2 _ (hd2 _ _ d0))
          | (refine step_append_lies _ (by rfl) (.tmp 15) (.tmp 33) 52 (by rfl) w.heap.size 56 i0 _ 1 8 Tryz.underlying52 hi hzz hz1' hz2 rfl (by omega) u3 k xs (by rfl)
              (((HT1.out.kept hk2 (fun _ _ h => h)).below ((Below.refl _ _).alloc (Nat.le_refl _) (.cells (tokC 31 2 0 s s ⟨#[]⟩ (.pointer (some ⟨pb, 0, none⟩))).toArray 108))).below ((Below.refl _ _).alloc (Nat.le_refl _) (.cells #[.pointer (some ⟨w2.heap.size, 0, none⟩)] 56))).own
              ⟨w2.heap.size + 1, 0, none⟩ 1 1 [.pointer (some ⟨w2.heap.size, 0, none⟩)] (by rfl) (by rfl) (World.news_of_block (cs := #[.pointer (some ⟨w2.heap.size, 0, none⟩)]) (t := 56) (fr := (0, 0)) (heap_alloc2_new w2 _ _)) (by simp [Value.oneCell'])
              (by omega) (by unfold maxLen; omega) (by omega) (by have := hk2.size; simp; omega) (w2.heap.size + 2) (by simp) ?_; intro gg cap w3 hown hgrow hat hlt;
              have hk3 : Kept (fun k => u3.ownBlock = some k) w1 w3 := (((hk2.mono (fun _ _ h => h.elim)).alloc _).alloc _).grown hgrow (fun k hk => hk);
              have hd3 : ∀ i v, w1.cell? ⟨wr.heap.size, i, none⟩ = some v → w3.cell? ⟨wr.heap.size, i, none⟩ = some v := fun i v h => hk3.cell h (fun h => absurd (HTL.out _ h) (Nat.lt_irrefl _)))
          | fail)
      go_wp2
      have HN := Lib.hid (HT1.out.next hk2 HO.out hpb hgrow hown)
      have HBN := Lib.hid ((HB1.out.trans (Kept.below (B := w.heap.size) hk3 (by have := HB1.out.size; omega) (fun k hk he => by have := (HT1.out.own.lt k he).1; omega))))
      go_roundw
      case rel => exact ⟨k + 1, by omega, by go_num, ⟨_, HN.out⟩, HBN.out⟩
      case measure => simp [intOf]; omega
    · obtain rfl : k = n := by omega
      have HT := Lib.hid ht
      have HB := Lib.hid hb
      clear ht hb
      go_wp2
      go_loopw [38] (fun i wr => ∃ j : Nat, j ≤ k ∧ i = .int .i64 j ∧ Toks w.heap.size k o wr u3 xs ∧ Below w.heap.size w wr) (fun i _ => k - (intOf i).toNat)
      case atStart => exact ⟨0, Nat.zero_le _, rfl, HT.out, HB.out⟩
      case round =>
        obtain ⟨j, hj, rfl, ht2, hb2⟩ := hrel
        have HT2 := Lib.hid ht2
        have HB2 := Lib.hid hb2
        by_cases hjk : j < k
        · have hcell : ∀ r u, (rowOf j (o j))[r]? = some u → wr.cell? ⟨g, j * 13 + r, none⟩ = some u := fun r u hu =>
            (Kept.of_below (S := fun _ => False) hb2).cell (HROW.out j hjk r u hu) (fun h => h)
          obtain ⟨s, hs⟩ : ∃ s, o j = s := ⟨_, rfl⟩
          rw [hs] at hcell
          have c0 : wr.cell? ⟨g, j * 13, none⟩ = _ := hcell 0 _ rfl
          have c1 := hcell 1 _ rfl
          have c2 := hcell 2 _ rfl
          have c3 := hcell 3 _ rfl
          have c4 := hcell 4 _ rfl
          have c5 := hcell 5 _ rfl
          have c6 := hcell 6 _ rfl
          have c7 := hcell 7 _ rfl
          have c8 := hcell 8 _ rfl
          have c9 := hcell 9 _ rfl
          have c10 := hcell 10 _ rfl
          have c11 := hcell 11 _ rfl
          have c12 := hcell 12 _ rfl
          clear hs hcell ht2 hb2
          go_wp2
          go_roundw
          case rel => exact ⟨j + 1, by omega, by go_num, HT2.out.below ((Below.refl _ _).alloc (Nat.le_refl _) _), HB2.out.alloc HB2.out.size _⟩
          case measure => simp [intOf]; omega
        · obtain rfl : j = k := by omega
          clear ht2 hb2
          go_wp2
          refine bodyPost_ret (v := u3) (by simp [results, Tryz.results38, go_sem]) rfl ?_
          exact ⟨u3, xs, rfl, HT2.out, HB2.out⟩
end Go.Proofs.YtpjfmfaijcbopaaGreatDoor
