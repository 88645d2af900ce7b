/- impl.Make for a token of a string: position, maker, Make. -/
import Derived.Test.YtpjfmfaijcbopaaGreatDoorList
namespace Go.Proofs.YtpjfmfaijcbopaaGreatDoor
open Go.RowKit

set_option maxHeartbeats 1000000 in
theorem small84 (n : Int) (h0 : 0 ≤ n) (h1 : n ≤ 200) (w : World) : Calls Tryz.prog 84 #[.int .i64 n] w fun e w' => e = .returned (.int .i64 n) ∧ w = w' := by
  have a : ¬ n < 0 := by omega
  have b : ¬ 200 < n := by omega
  go_enter Tryz.func84, Tryz.ntmps84
  go_wp2
  go_ret
  exact ⟨rfl, rfl⟩

theorem build116 (a b c d f : Int) (w : World) :
    (Instr.build 116 #[(0, .int .i64 a), (1, .int .i64 b), (2, .int .i64 c), (3, .int .i64 d), (4, .int .i64 f)]).run Tryz.prog w = .ok (.agg #[.int .i64 a, .int .i64 b, .int .i64 c, .int .i64 d, .int .i64 f]) w :=
  run_build (P := Tryz.prog) w 116 _ _ (by kernel_rfl)

attribute [-go_sem] Instr.build run_max_int2
set_option maxHeartbeats 4000000 in
set_option maxRecDepth 100000 in
theorem position36 (a b c d f : Int) (w : World) (hb0 : 1 ≤ b) (hb1 : b ≤ 200) (hd0 : 0 ≤ d) (hd1 : d ≤ 200) :
    Calls Tryz.prog 36 #[.agg (ints5 a b c d f).toArray] w fun e w' => ∃ g, e = .returned (.pointer (some ⟨g, 0, none⟩)) ∧ w.heap.size ≤ g ∧ Blk w' g (ints5 a b c d f) 116 ∧ Below w.heap.size w w' := by
  have hbuild := build116 a b c d f
  go_enter Tryz.func36, Tryz.ntmps36
  go_wp2
  have hk := Blk.new w (ints5 a b c d f) 29
  have hb : Below w.heap.size w (w.alloc (.cells (ints5 a b c d f).toArray 29)) := (Below.refl _ _).alloc (Nat.le_refl _) _
  have hz : (w.alloc (.cells (ints5 a b c d f).toArray 29)).heap.size = w.heap.size + 1 := by simp
  obtain ⟨w1, hw1⟩ : ∃ w1, w.alloc (.cells (ints5 a b c d f).toArray 29) = w1 := ⟨_, rfl⟩
  rw [hw1] at hk hb hz ⊢
  clear hw1
  have p0 := hk.cell 0 _ rfl
  have p1 := hk.cell 1 _ rfl
  have p2 := hk.cell 2 _ rfl
  have p3 := hk.cell 3 _ rfl
  have p4 := hk.cell 4 _ rfl
  have n0 := World.new_ne w1 _ p0
  have hm : ∀ (w : World) (ts : Array TypeId) (t : TypeId), (Builtin.max_ ts t #[.int .i64 b, .int .i64 1]).run Tryz.prog w = .ok (.int .i64 b) w := fun w ts t => by rw [run_max_int2, if_neg (by omega)]
  have HB := Lib.hid hb
  clear hb hk
  go_region_held3 (fun w' => w'.cell? ⟨w.heap.size, 0, none⟩ = some (.int .i64 a) ∧ w'.cell? ⟨w.heap.size, 1, none⟩ = some (.int .i64 b) ∧ w'.cell? ⟨w.heap.size, 2, none⟩ = some (.int .i64 c) ∧ w'.cell? ⟨w.heap.size, 3, none⟩ = some (.int .i64 d) ∧ w'.cell? ⟨w.heap.size, 4, none⟩ = some (.int .i64 f))
    (go_keep)
    (first | (go_at_call 84; refine (small84 _ (by omega) (by omega) _).mono ?_; rintro e w' ⟨rfl, rfl⟩) | fail)
  all_goals
    go_wp2
    refine bodyPost_ret (v := .pointer (some ⟨w1.heap.size, 0, none⟩)) (by simp [results, Tryz.results36, go_sem, hz]) rfl ?_
    exact ⟨_, rfl, by omega, (Blk.new w1 (ints5 a b c d f) 116).drew, (HB.out.alloc (by omega) _).drew⟩

/-- A token of a string, as it is made. -/
theorem tokString82 (val org : ByteArray) (p : Addr) (w : World) :
    Calls Tryz.prog 82 #[.string val, .string org, .pointer (some p)] w fun e w' => e = .returned (.pointer (some ⟨w.heap.size, 0, none⟩)) ∧ w' = w.alloc (.cells (tokC 31 2 0 val org ⟨#[]⟩ (.pointer (some p))).toArray 108) := by
  have hbuild : ∀ w : World, (Instr.build 108 #[(0, .int .i64 31), (1, .int .i64 2), (2, .int .i64 0), (3, .string val), (4, .string org), (6, .pointer (some p))]).run Tryz.prog w = .ok (.agg (tokC 31 2 0 val org ⟨#[]⟩ (.pointer (some p))).toArray) w :=
    fun w => run_build (P := Tryz.prog) w 108 _ _ (by kernel_rfl)
  go_enter Tryz.func82, Tryz.ntmps82
  go_wp2
  go_ret
  exact ⟨rfl, rfl⟩

set_option maxRecDepth 100000 in
set_option maxHeartbeats 4000000 in
theorem maker35 (val org : ByteArray) (p : Addr) (w : World) :
    Calls Tryz.prog 35 #[.int .i64 31, .string val, .string org, .pointer (some p)] w fun e w' => e = .returned (.pointer (some ⟨w.heap.size, 0, none⟩)) ∧ w' = w.alloc (.cells (tokC 31 2 0 val org ⟨#[]⟩ (.pointer (some p))).toArray 108) := by
  go_enter Tryz.func35, Tryz.ntmps35
  go_wp2_with (go_at_call 82; refine (tokString82 val org p _).mono ?_; rintro e w' ⟨rfl, rfl⟩)
  go_ret
  exact ⟨rfl, rfl⟩

set_option maxRecDepth 100000 in
set_option maxHeartbeats 4000000 in
theorem make18 (s : ByteArray) (a b c d f : Int) (w : World) (hb0 : 1 ≤ b) (hb1 : b ≤ 200) (hd0 : 0 ≤ d) (hd1 : d ≤ 200) :
    Calls Tryz.prog 18 #[.int .i64 31, .string s, .string s, .agg (ints5 a b c d f).toArray] w fun e w' => e = .returned (.agg (tokOut 31 2 0 s s ⟨#[]⟩ a b c d f).toArray) ∧ Below w.heap.size w w' := by
  have cP := fun w => position36 a b c d f w hb0 hb1 hd0 hd1
  have CP := Lib.hid cP
  clear cP hb0 hb1 hd0 hd1
  show Calls Tryz.prog 18 #[.int .i64 31, .string s, .string s, .agg #[.int .i64 a, .int .i64 b, .int .i64 c, .int .i64 d, .int .i64 f]] w _
  go_enter Tryz.func18, Tryz.ntmps18
  go_wp2_with fail
  have hb0 : Below w.heap.size w ((w.alloc (.cells #[.int .i64 a, .int .i64 b, .int .i64 c, .int .i64 d, .int .i64 f] 29)).alloc (.cells #[.int .i64 0, .int .i64 0, .int .i64 0, .string ⟨#[]⟩, .string ⟨#[]⟩, .string ⟨#[]⟩, .int .i64 0, .int .i64 0, .int .i64 0, .int .i64 0, .int .i64 0, .int .i64 0, .int .i64 0] 31)) :=
    ((Below.refl _ _).alloc (Nat.le_refl _) _).alloc (by simp) _
  have hr := Blk.new (w.alloc (.cells #[.int .i64 a, .int .i64 b, .int .i64 c, .int .i64 d, .int .i64 f] 29)) [.int .i64 0, .int .i64 0, .int .i64 0, .string ⟨#[]⟩, .string ⟨#[]⟩, .string ⟨#[]⟩, .int .i64 0, .int .i64 0, .int .i64 0, .int .i64 0, .int .i64 0, .int .i64 0, .int .i64 0] 31
  have hz0 : ((w.alloc (.cells #[.int .i64 a, .int .i64 b, .int .i64 c, .int .i64 d, .int .i64 f] 29)).alloc (.cells #[.int .i64 0, .int .i64 0, .int .i64 0, .string ⟨#[]⟩, .string ⟨#[]⟩, .string ⟨#[]⟩, .int .i64 0, .int .i64 0, .int .i64 0, .int .i64 0, .int .i64 0, .int .i64 0, .int .i64 0] 31)).heap.size = w.heap.size + 2 := by simp
  have hz1 : (w.alloc (.cells #[.int .i64 a, .int .i64 b, .int .i64 c, .int .i64 d, .int .i64 f] 29)).heap.size = w.heap.size + 1 := by simp
  rw [hz1] at hr
  obtain ⟨w0, hw0⟩ : ∃ w0, ((w.alloc (.cells #[.int .i64 a, .int .i64 b, .int .i64 c, .int .i64 d, .int .i64 f] 29)).alloc (.cells #[.int .i64 0, .int .i64 0, .int .i64 0, .string ⟨#[]⟩, .string ⟨#[]⟩, .string ⟨#[]⟩, .int .i64 0, .int .i64 0, .int .i64 0, .int .i64 0, .int .i64 0, .int .i64 0, .int .i64 0] 31)) = w0 := ⟨_, rfl⟩
  rw [hw0] at hb0 hz0 ⊢
  replace hr : Blk w0 (w.heap.size + 1) _ 31 := hw0 ▸ hr
  clear hw0 hz1
  refine (CP.out _).mono ?_
  rintro e w1 ⟨g, rfl, hg, hpb, hb1⟩
  have hr1 : Blk w1 (w.heap.size + 1) _ 31 := (Kept.of_below (S := fun _ => False) hb1).blk hr (fun h => h)
  have hs1 := hb1.size
  have hgl := hpb.lt
  have HB := Lib.hid (hb0.trans (hb1.mono (by omega)))
  have HR := Lib.hid hr1
  have HP := Lib.hid hpb
  clear hb0 hb1 hr hr1 hpb CP
  go_wp2_with (first | (go_at_call 35; refine (maker35 _ _ _ _).mono ?_; rintro e w2 ⟨rfl, rfl⟩) | fail)
  have hx : Blk ((w1.alloc (.cells (tokC 31 2 0 s s ⟨#[]⟩ (.pointer (some ⟨g, 0, none⟩))).toArray 108)).alloc (.cells #[.pointer (some ⟨w1.heap.size, 0, none⟩)] 56)) w1.heap.size (tokC 31 2 0 s s ⟨#[]⟩ (.pointer (some ⟨g, 0, none⟩))) 108 := (Blk.new w1 _ 108).alloc _
  have hq := (Blk.new (w1.alloc (.cells (tokC 31 2 0 s s ⟨#[]⟩ (.pointer (some ⟨g, 0, none⟩))).toArray 108)) [.pointer (some ⟨w1.heap.size, 0, none⟩)] 56).cell 0 _ rfl
  have hp2 := (HP.out.alloc (.cells (tokC 31 2 0 s s ⟨#[]⟩ (.pointer (some ⟨g, 0, none⟩))).toArray 108)).alloc (.cells #[.pointer (some ⟨w1.heap.size, 0, none⟩)] 56)
  have hr2 := (HR.out.alloc (.cells (tokC 31 2 0 s s ⟨#[]⟩ (.pointer (some ⟨g, 0, none⟩))).toArray 108)).alloc (.cells #[.pointer (some ⟨w1.heap.size, 0, none⟩)] 56)
  have hb2 := (HB.out.alloc (by omega) (.cells (tokC 31 2 0 s s ⟨#[]⟩ (.pointer (some ⟨g, 0, none⟩))).toArray 108)).alloc (by simp; omega) (.cells #[.pointer (some ⟨w1.heap.size, 0, none⟩)] 56)
  have hz2 : (w1.alloc (.cells (tokC 31 2 0 s s ⟨#[]⟩ (.pointer (some ⟨g, 0, none⟩))).toArray 108)).heap.size = w1.heap.size + 1 := by simp
  rw [hz2] at hq
  have c34 := list1 (w1.heap.size + 1) 1 w1.heap.size g 31 2 0 s s ⟨#[]⟩ a b c d f _ hq hx hp2
  refine c34.mono ?_
  rintro e w3 ⟨gg, cc, rfl, hgg, hcells, hb3⟩
  have HCC := Lib.hid hcells
  have hr3 : Blk w3 (w.heap.size + 1) _ 31 := (Kept.of_below (S := fun _ => False) hb3).blk hr2 (fun h => h)
  have hs3 := hb3.size
  have hgg2 : w1.heap.size + 2 ≤ gg := by simpa using hgg
  have c0 := HCC.out 0 _ rfl
  have c1 := HCC.out 1 _ rfl
  have c2 := HCC.out 2 _ rfl
  have c3 := HCC.out 3 _ rfl
  have c4 := HCC.out 4 _ rfl
  have c5 := HCC.out 5 _ rfl
  have c6 := HCC.out 6 _ rfl
  have c7 := HCC.out 7 _ rfl
  have c8 := HCC.out 8 _ rfl
  have c9 := HCC.out 9 _ rfl
  have c10 := HCC.out 10 _ rfl
  have c11 := HCC.out 11 _ rfl
  have c12 := HCC.out 12 _ rfl
  have r0 := hr3.cell 0 _ rfl
  have r1 := hr3.cell 1 _ rfl
  have r2 := hr3.cell 2 _ rfl
  have r3 := hr3.cell 3 _ rfl
  have r4 := hr3.cell 4 _ rfl
  have r5 := hr3.cell 5 _ rfl
  have r6 := hr3.cell 6 _ rfl
  have r7 := hr3.cell 7 _ rfl
  have r8 := hr3.cell 8 _ rfl
  have r9 := hr3.cell 9 _ rfl
  have r10 := hr3.cell 10 _ rfl
  have r11 := hr3.cell 11 _ rfl
  have r12 := hr3.cell 12 _ rfl
  have f0 := hr3.free 0
  have f1 := hr3.free 1
  have f2 := hr3.free 2
  have f3 := hr3.free 3
  have f4 := hr3.free 4
  have f5 := hr3.free 5
  have f6 := hr3.free 6
  have f7 := hr3.free 7
  have f8 := hr3.free 8
  have f9 := hr3.free 9
  have f10 := hr3.free 10
  have f11 := hr3.free 11
  have f12 := hr3.free 12
  have HR3 := Lib.hid hr3
  have HB2 := Lib.hid hb2
  have HB3 := Lib.hid hb3
  clear hcells hb2 hb3 hr3 c34 hx hq hp2 hr2
  go_wp2
  have hrow : Blk _ (w.heap.size + 1) (tokOut 31 2 0 s s ⟨#[]⟩ a b c d f) 31 := (((((((((((((HR3.out.set 0 (.int .i64 31)).set 1 (.int .i64 2)).set 2 (.int .i64 0)).set 3 (.string s)).set 4 (.string s)).set 5 (.string ⟨#[]⟩)).set 6 (.int .i64 a)).set 7 (.int .i64 b)).set 8 (.int .i64 c)).set 9 (.int .i64 d)).set 10 (.int .i64 f)).set 11 (.int .i64 (-1))).set 12 (.int .i64 (-1)))
  refine bodyPost_ret (v := .agg (tokOut 31 2 0 s s ⟨#[]⟩ a b c d f).toArray) (results_cell_row (P := Tryz.prog) (p := 8) (ty := 31) rfl _ _ (w.heap.size + 1) 31 _ (0, 0) _ rfl hrow Tryz.underlying31 rfl (by kernel_rfl)) rfl ⟨rfl, ?_⟩
  have hb := HB2.out.trans (HB3.out.mono HB2.out.size)
  have k0 : Kept (fun k => w.heap.size ≤ k) w w3 := ⟨hb.os, hb.tape, hb.output, hb.size, fun i _ hs => hb.block i (by omega)⟩
  have hs : w.heap.size ≤ w.heap.size + 1 := by omega
  exact Kept.below (((((((((((((k0.setCell _ hs _).setCell _ hs _).setCell _ hs _).setCell _ hs _).setCell _ hs _).setCell _ hs _).setCell _ hs _).setCell _ hs _).setCell _ hs _).setCell _ hs _).setCell _ hs _).setCell _ hs _).setCell _ hs _) (Nat.le_refl _) (fun k hk => by omega)
end Go.Proofs.YtpjfmfaijcbopaaGreatDoor
