/- The printer over tokens of strings on one line each. -/
import Derived.Test.YtpjfmfaijcbopaaGreatDoorToks
import Derived.Test.YtpjfmfaijcbopaaGreatDoorPrt
namespace Go.Proofs.YtpjfmfaijcbopaaGreatDoor
open Go.RowKit

/-- The first n strings, one behind the other. -/
def cat (o : Nat → ByteArray) : Nat → ByteArray
  | 0 => ⟨#[]⟩
  | n + 1 => cat o n ++ o n

theorem cat_size (o : Nat → ByteArray) : ∀ k, (∀ j, j < k → (o j).size ≤ 65536) → (cat o k).size ≤ k * 65536
  | 0, _ => Nat.zero_le _
  | k + 1, h => by
    have h1 := cat_size o k (fun j hj => h j (by omega))
    have h2 := h k (by omega)
    unfold cat
    rw [ByteArray.size_append]
    omega

theorem empty_cat (x : ByteArray) : (⟨#[]⟩ : ByteArray) ++ x = x := by
  apply ByteArray.ext
  rw [ByteArray.data_append]
  exact Array.empty_append
theorem cat_empty (x : ByteArray) : x ++ (⟨#[]⟩ : ByteArray) = x := by
  apply ByteArray.ext
  rw [ByteArray.data_append]
  exact Array.append_empty
theorem cell_set_self {w : World} {g : Nat} {u : Value} (h : w.cell? ⟨g, 0, none⟩ = some u) (v : Value) : (w.setCell ⟨g, 0, none⟩ v).cell? ⟨g, 0, none⟩ = some v := World.cell?_setCell_same _ _ _ h
theorem frozen_set_self {w : World} {g : Nat} (hf : w.frozen? ⟨g, 0, none⟩ = false) (v : Value) : (w.setCell ⟨g, 0, none⟩ v).frozen? ⟨g, 0, none⟩ = false := (World.frozen?_setCell _ _ _ _).trans hf

/-- What the texts are behind k tokens. -/
def Texts (w0 : World) (o : Nat → ByteArray) (k : Nat) (l ln : Value) (wr : World) : Prop :=
  (k = 0 ∧ l = .slice (some ⟨w0.heap.size, 0, none⟩) 0 0 ∧ ln = .int .i64 1) ∨
  (0 < k ∧ ∃ g c, l = .slice (some ⟨g, 0, none⟩) 1 c ∧ ln = .int .i64 2 ∧ w0.heap.size ≤ g ∧ wr.cell? ⟨g, 0, none⟩ = some (.string (cat o k)) ∧ wr.frozen? ⟨g, 0, none⟩ = false)

set_option maxRecDepth 100000 in
set_option maxHeartbeats 8000000 in
theorem print37 (pp base n g c : Nat) (o : Nat → ByteArray) (xs : List Value) (w : World) (hn0 : 0 < n) (hn : n ≤ 100) (ht : Toks base n o w (.slice (some ⟨g, 0, none⟩) n c) xs) (hp0 : w.cell? ⟨pp, 0, none⟩ = some (.bool false)) (hp6 : w.cell? ⟨pp, 6, none⟩ = some .nilFunc)
    (hno : ∀ j, j < n → ∀ i, i < (o j).size → by' (o j) i ≠ 10) (hsz : ∀ j, j < n → (o j).size ≤ 65536) :
    Calls Tryz.prog 37 #[.pointer (some ⟨pp, 0, none⟩), .slice (some ⟨g, 0, none⟩) n c] w fun e w' => e = .returned (.string (cat o n)) ∧ Below w.heap.size w w' := by
  obtain ⟨t0, p0, hx0, htb0, hpb0⟩ := ht.tok 0 hn0
  have q0 := ht.own.cellAt 0 (by omega)
  rw [hx0] at q0
  have q6 := htb0.cell 6 _ rfl
  have q7 := hpb0.cell 0 _ rfl
  have i0 : ((n : Int) == 0) = false := by simp; omega
  have i1 : (0 : Int) < (n : Int) := by omega
  have later : ∀ (p : Addr) (v : Value), w.cell? p = some v → ∀ ob, (w.alloc ob).cell? p = some v := fun p v h ob => ((Kept.refl (fun _ => False) w).alloc ob).cell h (fun h => h)
  have m0 := later _ _ hp0
  have m1 := later _ _ q0
  have m2 := later _ _ q6
  have m3 := later _ _ q7
  clear later
  have HT := Lib.hid ht
  have HNO := Lib.hid hno
  have HSZ := Lib.hid hsz
  clear ht hno hsz hx0 htb0 hpb0
  go_enter Tryz.func37, Tryz.ntmps37
  go_wp2_with fail
  have hb0 : Below w.heap.size w (w.alloc (.cells #[] 9)) := (Below.refl _ _).alloc (Nat.le_refl _) _
  have hz0 : (w.alloc (.cells #[] 9)).heap.size = w.heap.size + 1 := by simp
  have hB0 := Blk.new w [] 9
  clear m0 m1 m2 m3 q0 q6 q7
  go_loopw [45, 5, 6] (fun i l ln wr => ∃ k : Nat, k ≤ n ∧ i = .int .i64 k ∧ Texts w o k l ln wr ∧ Below w.heap.size w wr ∧ (k = 0 → Blk wr w.heap.size [] 9)) (fun i _ _ _ => n - (intOf i).toNat)
  case atStart => exact ⟨0, Nat.zero_le _, rfl, .inl ⟨rfl, rfl, rfl⟩, hb0, fun _ => hB0⟩
  case round =>
    obtain ⟨k, hk, rfl, htx, hb, hB⟩ := hrel
    by_cases hkn : k < n
    · obtain ⟨tb, pb, hx, htb, hpb⟩ := (HT.out.below hb).tok k hkn
      have q0 := (HT.out.below hb).own.cellAt k (by omega)
      rw [hx] at q0
      have r4 := htb.cell 4 _ rfl
      have hnk := HNO.out k hkn
      have hsk := HSZ.out k hkn
      have hkp := Kept.of_below (S := fun _ => False) hb
      have r0 := hkp.cell hp0 (fun h => h)
      have r6 := hkp.cell hp6 (fun h => h)
      obtain ⟨s, hs⟩ : ∃ s, o k = s := ⟨_, rfl⟩
      rw [hs] at htb r4 hnk hsk
      have HX := Lib.hid htb
      have HS := Lib.hid hs
      have HTX := Lib.hid htx
      have HB := Lib.hid hb
      have HBK := Lib.hid hB
      have CS := Lib.hid (fun w => split86 s w (by omega) hnk)
      clear htb hpb hs htx hb hB hnk hx hkp
      go_wp2_with fail
      refine (CS.out _).mono ?_
      rintro e w1 ⟨sg, sc, rfl, hsg, hb1⟩
      have hk1 := Kept.of_below (S := fun _ => False) hb1
      have hx1 := hk1.blk HX.out (fun h => h)
      have r01 := hk1.cell r0 (fun h => h)
      have r61 := hk1.cell r6 (fun h => h)
      have CP := Lib.hid (property87 pp tb s s ⟨#[]⟩ _ w1 hx1 r61)
      have HB1 := Lib.hid hb1
      clear hk1 hx1 hb1 r0 r6 r61 r4 q0 CS
      go_wp2_with fail
      refine CP.out.mono ?_
      rintro e w2 ⟨pg, rfl, hpg, hb2⟩
      have hk2 := Kept.of_below (S := fun _ => False) hb2
      have r0 := hk2.cell r01 (fun h => h)
      have s0 := hk2.cell hsg (fun h => h)
      have g0 := hpg.cell 0 _ rfl
      have g1 := hpg.cell 1 _ rfl
      have HB2 := Lib.hid hb2
      clear hk2 hsg r01 hpg hb2 CP
      go_wp2_with fail
      have hbig : ¬ 9223372036854775807 < s.size := by omega
      go_region_held3 (fun w' => w'.cell? ⟨pg, 0, none⟩ = some (.string ⟨#[]⟩) ∧ w'.cell? ⟨pg, 1, none⟩ = some (.string ⟨#[]⟩) ∧ w'.cell? ⟨sg, 0, none⟩ = some (.string s)) (go_keep) (fail)
      rcases HTX.out with ⟨rfl, rfl, rfl⟩ | ⟨hk0, gt, ct, rfl, rfl, hgt, hct, hft⟩
      · go_wp2_with fail
        go_roundw
        case rel =>
          have z1 := HB.out.size
          have z2 := HB1.out.size
          have z3 := HB2.out.size
          have hb := heap_alloc2_new w2 (.cells #[.string (⟨#[]⟩ ++ (⟨#[]⟩ ++ s ++ ⟨#[]⟩))] 9) (.cells (#[.string (⟨#[]⟩ ++ (⟨#[]⟩ ++ s ++ ⟨#[]⟩))] ++ Builtin.zeroCells #[.string ⟨#[]⟩] ((Question.appendCap 1 0 9).cut (w2.tape (w2.drawn + 1) (Question.appendCap 1 0 9)) - 1)) 9)
          have hc := cell_of_row _ _ 0 _ _ _ hb
          rw [show ∀ X : Array Value, (#[Value.string (⟨#[]⟩ ++ (⟨#[]⟩ ++ s ++ ⟨#[]⟩))] ++ X)[0]? = some (.string (⟨#[]⟩ ++ (⟨#[]⟩ ++ s ++ ⟨#[]⟩))) from fun X => (Array.getElem?_append_left Nat.zero_lt_one).trans rfl] at hc
          have hf : ((w2.alloc (.cells #[.string (⟨#[]⟩ ++ (⟨#[]⟩ ++ s ++ ⟨#[]⟩))] 9)).alloc (.cells (#[.string (⟨#[]⟩ ++ (⟨#[]⟩ ++ s ++ ⟨#[]⟩))] ++ Builtin.zeroCells #[.string ⟨#[]⟩] ((Question.appendCap 1 0 9).cut (w2.tape (w2.drawn + 1) (Question.appendCap 1 0 9)) - 1)) 9)).frozen? ⟨w2.heap.size + 1, 0, none⟩ = false := by
            simp only [World.frozen?, hb]
            rfl
          have b1 : Below w.heap.size w (w2.alloc (.cells #[.string (⟨#[]⟩ ++ (⟨#[]⟩ ++ s ++ ⟨#[]⟩))] 9)) := ((HB.out.trans (HB1.out.mono z1)).trans (HB2.out.mono (by omega))).alloc (by omega) _
          have he : ⟨#[]⟩ ++ (⟨#[]⟩ ++ s ++ ⟨#[]⟩) = cat o 1 := by
            show _ = ⟨#[]⟩ ++ o 0
            rw [HS.out, empty_cat, empty_cat, cat_empty]
          have hc := hc.trans (congrArg (fun x => some (Value.string x)) he)
          exact ⟨1, by omega, by go_num, .inr ⟨by omega, _, _, rfl, rfl, by omega, hc, hf⟩, ((b1.alloc b1.size _).drew).drew, fun h => by omega⟩
        case measure => simp [intOf]; omega
      · have hk1 := Kept.of_below (S := fun _ => False) HB1.out
        have hk2 := Kept.of_below (S := fun _ => False) HB2.out
        have hct2 := hk2.cell (hk1.cell hct (fun h => h)) (fun h => h)
        have hlt := World.block_lt_of_cell? _ _ hct
        have hft2 : w2.frozen? ⟨gt, 0, none⟩ = false := by
          rw [World.frozen?_of_block (hk2.block gt (Nat.lt_of_lt_of_le hlt HB1.out.size) (fun h => h)), World.frozen?_of_block (hk1.block gt hlt (fun h => h))]
          exact hft
        have hcs := cat_size o k (fun j hj => HSZ.out j (by omega))
        have hcs2 : (cat o k).size ≤ 6553600 := by omega
        clear hk1 hk2 hct hft hcs
        go_wp2_with fail
        go_roundw
        case rel =>
          have z1 := HB.out.size
          have z2 := HB1.out.size
          have b1 : Below w.heap.size w w2 := (HB.out.trans (HB1.out.mono z1)).trans (HB2.out.mono (by omega))
          have he : cat o k ++ (⟨#[]⟩ ++ s ++ ⟨#[]⟩) = cat o (k + 1) := by
            show _ = cat o k ++ o k
            rw [HS.out, empty_cat, cat_empty]
          rw [he]
          have k0 : Kept (fun i => w.heap.size ≤ i) w w2 := ⟨b1.os, b1.tape, b1.output, b1.size, fun i _ hs => b1.block i (by omega)⟩
          exact ⟨k + 1, by omega, by go_num, .inr ⟨by omega, gt, ct, rfl, rfl, hgt, cell_set_self hct2 _, frozen_set_self hft2 _⟩, (Kept.below (k0.setCell _ hgt _) (Nat.le_refl _) (fun i hi => by omega)).drew, fun h => by omega⟩
        case measure => simp [intOf]; omega
    · obtain rfl : k = n := by omega
      rcases htx with ⟨rfl, _, _⟩ | ⟨hk0, gt, ct, rfl, rfl, hgt, hct, hft⟩
      · omega
      have HB := Lib.hid hb
      have CJ := Lib.hid (join1 gt ct (cat o k) ⟨#[10]⟩ wr hct)
      clear hb hB hct hft
      go_wp2_with (first | (go_at_call 88; refine CJ.out.mono ?_; rintro e w' ⟨rfl, rfl⟩) | fail)
      go_ret
      exact ⟨rfl, HB.out⟩
end Go.Proofs.YtpjfmfaijcbopaaGreatDoor
