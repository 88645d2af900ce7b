/- impl.PrintTokens over rows. -/
import Derived.Test.YtpjfmfaijcbopaaGreatDoorPrtB
import Derived.Laws.EntriesVeiled
namespace Go.Proofs.YtpjfmfaijcbopaaGreatDoor
open Go.RowKit

set_option maxRecDepth 100000 in
set_option maxHeartbeats 8000000 in
theorem printImpl (n g c : Nat) (o : Nat → ByteArray) (w : World) (hn0 : 0 < n) (hn : n ≤ 100) (hc : n ≤ c) (hrow : ∀ j, j < n → ∀ r u, (rowOf j (o j))[r]? = some u → w.cell? ⟨g, j * 13 + r, none⟩ = some u)
    (hno : ∀ j, j < n → ∀ i, i < (o j).size → by' (o j) i ≠ 10) (hsz : ∀ j, j < n → (o j).size ≤ 65536) :
    Calls Tryz.prog 19 #[.slice (some ⟨g, 0, none⟩) n c, .bool false] w fun e w' => e = .returned (.string (cat o n)) ∧ Below w.heap.size w w' := by
  have HR := Lib.hid hrow
  have HNO := Lib.hid hno
  have HSZ := Lib.hid hsz
  clear hrow hno hsz
  go_enter Tryz.func19, Tryz.ntmps19
  go_wp2_with fail
  have hp := Blk.new w [.bool false, .nilFunc, .nilFunc, .nilFunc, .nilFunc, .nilFunc, .nilFunc, .nilFunc, .nilFunc] 64
  have hb : Below w.heap.size w (w.alloc (.cells #[.bool false, .nilFunc, .nilFunc, .nilFunc, .nilFunc, .nilFunc, .nilFunc, .nilFunc, .nilFunc] 64)) := (Below.refl _ _).alloc (Nat.le_refl _) _
  obtain ⟨w1, hw1⟩ : ∃ w1, w.alloc (.cells #[.bool false, .nilFunc, .nilFunc, .nilFunc, .nilFunc, .nilFunc, .nilFunc, .nilFunc, .nilFunc] 64) = w1 := ⟨_, rfl⟩
  replace hp : Blk w1 w.heap.size _ 64 := hw1 ▸ hp
  rw [hw1] at hb ⊢
  clear hw1
  have hk := Kept.of_below (S := fun _ => False) hb
  refine (made38 g c n o w1 hn hc (fun j hj r u hu => hk.cell (HR.out j hj r u hu) (fun h => h))).mono ?_
  rintro e w2 ⟨v, xs, rfl, ht, hb2⟩
  obtain ⟨g2, c2, rfl, _, _⟩ := ht.own.form hn0
  have hk2 := Kept.of_below (S := fun _ => False) hb2
  have c37 := print37 w.heap.size w1.heap.size n g2 c2 o xs w2 hn0 hn ht (hk2.cell (hp.cell 0 _ rfl) (fun h => h)) (hk2.cell (hp.cell 6 _ rfl) (fun h => h)) HNO.out HSZ.out
  have C37 := Lib.hid c37
  have HB := Lib.hid (hb.trans (hb2.mono hb.size))
  clear hp hb hk ht hb2 hk2 c37
  go_wp2_with fail
  refine C37.out.mono ?_
  rintro e w3 ⟨rfl, hb3⟩
  have HB3 := Lib.hid (HB.out.trans (hb3.mono HB.out.size))
  clear hb3 C37
  go_wp2_with fail
  go_ret
  exact ⟨rfl, HB3.out⟩

set_option maxRecDepth 100000 in
set_option maxHeartbeats 4000000 in
theorem madeNone (w : World) : Calls Tryz.prog 38 #[.slice none 0 0] w fun e w' => e = .returned (.slice (some ⟨w.heap.size, 0, none⟩) 0 0) ∧ Below w.heap.size w w' := by
  go_enter Tryz.func38, Tryz.ntmps38
  go_wp2_with fail
  refine wp_loop_rounds 1 ?_
  rw [rounds_succ]
  go_wp2_with fail
  refine wp_loop_rounds 1 ?_
  rw [rounds_succ]
  go_wp2_with fail
  go_ret
  exact ⟨rfl, (Below.refl _ _).alloc (Nat.le_refl _) _⟩
set_option maxRecDepth 100000 in
set_option maxHeartbeats 4000000 in
theorem printEmpty (p a : Addr) (w : World) : Calls Tryz.prog 37 #[.pointer (some p), .slice (some a) 0 0] w fun e w' => e = .returned (.string ⟨#[]⟩) ∧ w = w' := by
  go_enter Tryz.func37, Tryz.ntmps37
  go_wp2_with fail
  go_ret
  exact ⟨rfl, rfl⟩

set_option maxRecDepth 100000 in
set_option maxHeartbeats 8000000 in
/-- Of no rows. -/
theorem printNone (w : World) : Calls Tryz.prog 19 #[.slice none 0 0, .bool false] w fun e w' => e = .returned (.string ⟨#[]⟩) ∧ Below w.heap.size w w' := by
  go_enter Tryz.func19, Tryz.ntmps19
  go_wp2_with fail
  have hb : Below w.heap.size w (w.alloc (.cells #[.bool false, .nilFunc, .nilFunc, .nilFunc, .nilFunc, .nilFunc, .nilFunc, .nilFunc, .nilFunc] 64)) := (Below.refl _ _).alloc (Nat.le_refl _) _
  obtain ⟨w1, hw1⟩ : ∃ w1, w.alloc (.cells #[.bool false, .nilFunc, .nilFunc, .nilFunc, .nilFunc, .nilFunc, .nilFunc, .nilFunc, .nilFunc] 64) = w1 := ⟨_, rfl⟩
  rw [hw1] at hb ⊢
  clear hw1
  refine (madeNone w1).mono ?_
  rintro e w2 ⟨rfl, hb2⟩
  have HB := Lib.hid (hb.trans (hb2.mono hb.size))
  clear hb hb2
  go_wp2_with fail
  refine (printEmpty _ _ w2).mono ?_
  rintro e w3 ⟨rfl, rfl⟩
  go_wp2_with fail
  go_ret
  exact ⟨rfl, HB.out⟩
end Go.Proofs.YtpjfmfaijcbopaaGreatDoor
