/- laws.nbLives: it says true. -/
import Derived.Test.YtpjfmfaijcbopaaGreatDoorNt
import Derived.Test.YtpjfmfaijcbopaaGreatDoorShelfN
import Derived.Deep.RegionHeld3
namespace Go.Proofs.YtpjfmfaijcbopaaGreatDoor
open Go.RowKit Go.Proofs

/-- The text 12. -/
abbrev tw : ByteArray := ⟨#[49, 50]⟩
theorem pre_tw (p : ByteArray) (hp : preB tw p = false) (w : World) : Calls Tryz.prog 137 #[.string ⟨#[49, 50]⟩, .string p] w fun e w' => e = .returned (.bool false) ∧ w = w' := by
  have := hasPre137 tw p w
  rw [hp] at this
  exact this
theorem trim_tw (p : ByteArray) (hp : preB tw p = false) (w : World) : Calls Tryz.prog 140 #[.string ⟨#[49, 50]⟩, .string p] w fun e w' => e = .returned (.string ⟨#[49, 50]⟩) ∧ w = w' := by
  have := trim140 tw p w
  unfold trimB at this
  rw [hp] at this
  exact this
/-- What toNumber makes of 12. -/
def TwEnd (w : World) (e : Ending) (w' : World) : Prop := ∃ N, e = .returned (.tuple #[.pointer (some ⟨N, 0, none⟩), .nilIface]) ∧ w.heap.size ≤ N ∧ Blk w' N [.string ⟨#[100, 101, 99, 105, 109, 97, 108]⟩, .iface 36 (.int .u64 12), .string ⟨#[49, 50]⟩] 79 ∧ Below w.heap.size w w'
set_option maxRecDepth 100000 in
set_option maxHeartbeats 8000000 in
theorem tw93 (w : World) : Calls Tryz.prog 93 #[.string ⟨#[49, 50]⟩] w (TwEnd w) := by
  have P1 := Lib.hid (pre_tw ⟨#[95]⟩ (by decide))
  have P2 := Lib.hid (pre_tw ⟨#[45]⟩ (by decide))
  have P3 := Lib.hid (pre_tw ⟨#[48, 120]⟩ (by decide))
  have P4 := Lib.hid (pre_tw ⟨#[48, 111]⟩ (by decide))
  have P5 := Lib.hid (pre_tw ⟨#[48, 98]⟩ (by decide))
  have P6 := Lib.hid (pre_tw ⟨#[48]⟩ (by decide))
  have T1 := Lib.hid (trim_tw ⟨#[43]⟩ (by decide))
  have T2 := Lib.hid (trim_tw ⟨#[45]⟩ (by decide))
  have CC : Hid (∀ w, Calls Tryz.prog 138 #[.string ⟨#[49, 50]⟩, .string ⟨#[46]⟩] w fun e w' => e = .returned (.int .i64 0) ∧ w = w') := Lib.hid (fun w => by
    have := count138 tw ⟨#[46]⟩ w (by decide) (by decide) (by decide)
    rw [show cnt tw ⟨#[46]⟩ = 0 by decide +kernel] at this
    exact this)
  have CR : Hid (∀ w, Calls Tryz.prog 139 #[.string ⟨#[49, 50]⟩, .string ⟨#[95]⟩, .string ⟨#[]⟩] w fun e w' => e = .returned (.string ⟨#[49, 50]⟩) ∧ Below w.heap.size w w') := Lib.hid (fun w => replace139n tw w (by decide) (by decide) (by
    intro i hi
    have h2 : i + 1 ≤ 2 := hi
    rcases i with _ | _ | i
    · decide
    · decide
    · omega))
  have CU : Hid (∀ w, Calls Tryz.prog 142 #[.string ⟨#[49, 50]⟩, .int .i64 10, .int .i64 64] w fun e w' => e = .returned (.tuple #[.int .u64 12, .nilIface]) ∧ Below w.heap.size w w') := Lib.hid (fun w => (Tryz.strconv_ParseUint_10_at64_ok tw (by decide) 12 (by decide +kernel) w).mono (by
    rintro e w' ⟨rfl, rfl | rfl⟩
    · exact ⟨rfl, Below.refl _ _⟩
    · exact ⟨rfl, Lib.bytesWorld_below _ _ _⟩))
  go_enter Tryz.func93, Tryz.ntmps93
  go_wp2_with (first
    | (go_at_call 137; (first | refine (P1.out _).mono ?_ | refine (P2.out _).mono ?_ | refine (P3.out _).mono ?_ | refine (P4.out _).mono ?_ | refine (P5.out _).mono ?_ | refine (P6.out _).mono ?_); rintro e w' ⟨rfl, rfl⟩)
    | (go_at_call 140; (first | refine (T1.out _).mono ?_ | refine (T2.out _).mono ?_); rintro e w' ⟨rfl, rfl⟩)
    | (go_at_call 138; refine (CC.out _).mono ?_; rintro e w' ⟨rfl, rfl⟩))
  refine (CR.out _).mono ?_
  rintro e w1 ⟨rfl, hB⟩
  have HB := Lib.hid hB
  have hsz := hB.size
  clear hB
  go_wp2_with (go_at_call 137; (first | refine (P1.out _).mono ?_ | refine (P2.out _).mono ?_ | refine (P3.out _).mono ?_ | refine (P4.out _).mono ?_ | refine (P5.out _).mono ?_ | refine (P6.out _).mono ?_); rintro e w' ⟨rfl, rfl⟩)
  refine (CU.out _).mono ?_
  rintro e w2 ⟨rfl, hB⟩
  have HB2 := Lib.hid (HB.out.trans (hB.mono hsz))
  have hsz2 := HB2.out.size
  clear hB
  go_wp2_with fail
  go_ret2
  exact ⟨w2.heap.size, rfl, hsz2, Blk.new w2 [.string ⟨#[100, 101, 99, 105, 109, 97, 108]⟩, .iface 36 (.int .u64 12), .string ⟨#[49, 50]⟩] 79, HB2.out.alloc hsz2 _⟩

/-- The number 12, as ToNumber tells it. -/
def twNum : Value := .agg #[.bool true, .string ⟨#[100, 101, 99, 105, 109, 97, 108]⟩, .string ⟨#[49, 50]⟩, .int .i64 2, .int .i64 0, .int .u64 12, .float .f64 0]
set_option maxHeartbeats 4000000 in
theorem tw43 (w : World) : Calls Tryz.prog 43 #[.string ⟨#[49, 50]⟩] w fun e w' => (∃ N, e = .returned (.pointer (some ⟨N, 0, none⟩)) ∧ w.heap.size ≤ N ∧ Blk w' N [.string ⟨#[100, 101, 99, 105, 109, 97, 108]⟩, .iface 36 (.int .u64 12), .string ⟨#[49, 50]⟩] 79) ∧ Below w.heap.size w w' := by
  go_enter Tryz.func43, Tryz.ntmps43
  go_wp2_with fail
  refine (tw93 w).mono ?_
  rintro e w' ⟨N, rfl, hN, hb, hB⟩
  have H := Lib.hid (And.intro hb hB)
  clear hb hB
  go_wp2_with fail
  go_ret
  exact ⟨⟨N, rfl, hN, H.out.1⟩, H.out.2⟩
set_option maxRecDepth 100000 in
set_option maxHeartbeats 8000000 in
theorem tw22 (w : World) : Calls Tryz.prog 22 #[.string ⟨#[49, 50]⟩] w fun e w' => e = .returned twNum ∧ Below w.heap.size w w' := by
  have ta2 : ∀ W : World, (Instr.typeAssert (.iface 36 (.int .u64 12)) 20 2 true).run Tryz.prog W = .ok (.tuple #[.int .i64 0, .bool false]) W := fun W => by kernel_rfl
  have ta36 : ∀ W : World, (Instr.typeAssert (.iface 36 (.int .u64 12)) 20 36 true).run Tryz.prog W = .ok (.tuple #[.int .u64 12, .bool true]) W := fun W => by kernel_rfl
  have hsf : ∀ (w : World) (a : Addr), (store a (.float .f64 0) .plain).run Tryz.prog w = stored Tryz.prog w a (.float .f64 0) .plain := fun w a => run_store Tryz.prog w a _ _ rfl
  go_enter Tryz.func22, Tryz.ntmps22
  go_wp2_with fail
  refine (tw43 _).mono ?_
  rintro e w' ⟨⟨N, rfl, hN, hb⟩, hB⟩
  have c0 := hb.cell 0 _ rfl
  have c1 := hb.cell 1 _ rfl
  have c2 := hb.cell 2 _ rfl
  have lt := hb.lt
  have hb0 : Blk w' w.heap.size [.bool false, .string ⟨#[]⟩, .string ⟨#[]⟩, .int .i64 0, .int .i64 0, .int .u64 0, .float .f64 0] 39 := by
    unfold Blk
    rw [hB.block w.heap.size (by simp)]
    exact Blk.new w [.bool false, .string ⟨#[]⟩, .string ⟨#[]⟩, .int .i64 0, .int .i64 0, .int .u64 0, .float .f64 0] 39
  have o0 : ∀ o, (w'.alloc o).cell? ⟨w.heap.size, 0, none⟩ = some _ := fun o => (hb0.alloc o).cell 0 _ rfl
  have g0 : ∀ o, (w'.alloc o).frozen? ⟨w.heap.size, 0, none⟩ = false := fun o => (hb0.alloc o).free 0
  have o1 : ∀ o, (w'.alloc o).cell? ⟨w.heap.size, 1, none⟩ = some _ := fun o => (hb0.alloc o).cell 1 _ rfl
  have g1 : ∀ o, (w'.alloc o).frozen? ⟨w.heap.size, 1, none⟩ = false := fun o => (hb0.alloc o).free 1
  have o2 : ∀ o, (w'.alloc o).cell? ⟨w.heap.size, 2, none⟩ = some _ := fun o => (hb0.alloc o).cell 2 _ rfl
  have g2 : ∀ o, (w'.alloc o).frozen? ⟨w.heap.size, 2, none⟩ = false := fun o => (hb0.alloc o).free 2
  have o3 : ∀ o, (w'.alloc o).cell? ⟨w.heap.size, 3, none⟩ = some _ := fun o => (hb0.alloc o).cell 3 _ rfl
  have g3 : ∀ o, (w'.alloc o).frozen? ⟨w.heap.size, 3, none⟩ = false := fun o => (hb0.alloc o).free 3
  have o4 : ∀ o, (w'.alloc o).cell? ⟨w.heap.size, 4, none⟩ = some _ := fun o => (hb0.alloc o).cell 4 _ rfl
  have g4 : ∀ o, (w'.alloc o).frozen? ⟨w.heap.size, 4, none⟩ = false := fun o => (hb0.alloc o).free 4
  have o5 : ∀ o, (w'.alloc o).cell? ⟨w.heap.size, 5, none⟩ = some _ := fun o => (hb0.alloc o).cell 5 _ rfl
  have g5 : ∀ o, (w'.alloc o).frozen? ⟨w.heap.size, 5, none⟩ = false := fun o => (hb0.alloc o).free 5
  have o6 : ∀ o, (w'.alloc o).cell? ⟨w.heap.size, 6, none⟩ = some _ := fun o => (hb0.alloc o).cell 6 _ rfl
  have g6 : ∀ o, (w'.alloc o).frozen? ⟨w.heap.size, 6, none⟩ = false := fun o => (hb0.alloc o).free 6
  have n1 := World.new_ne w' _ (hb0.cell 0 _ rfl)
  have hB0 : Hid (Below w.heap.size w w') := Lib.hid (((Below.refl w.heap.size w).alloc (Nat.le_refl _) _).trans (hB.mono (by simp)))
  have n0 := World.new_ne w' _ c0
  have HB0 := Lib.hid hb0
  have hsz : w.heap.size ≤ w'.heap.size := hB0.out.size
  clear hb hb0 hB
  go_wp2_with fail
  go_region_held3 (fun w' => w'.cell? ⟨N, 0, none⟩ = some (.string ⟨#[100, 101, 99, 105, 109, 97, 108]⟩) ∧ w'.cell? ⟨N, 2, none⟩ = some (.string ⟨#[49, 50]⟩))
    (go_keep) (fail)
  go_wp2_with fail
  refine bodyPost_ret (v := twNum) (by simp [results, Tryz.results22, go_sem, twNum, o0, o1, o2, o3, o4, o5, o6]) rfl ⟨rfl, ?_⟩
  exact ((((((((hB0.out.alloc hsz _).setCell (p := ⟨w.heap.size, 0, none⟩) (Nat.le_refl _) _).setCell (p := ⟨w.heap.size, 1, none⟩) (Nat.le_refl _) _).setCell (p := ⟨w.heap.size, 2, none⟩) (Nat.le_refl _) _).setCell (p := ⟨w.heap.size, 3, none⟩) (Nat.le_refl _) _).setCell (p := ⟨w.heap.size, 4, none⟩) (Nat.le_refl _) _).setCell (p := ⟨w.heap.size, 5, none⟩) (Nat.le_refl _) _).setCell (p := ⟨w.heap.size, 6, none⟩) (Nat.le_refl _) _).drew
set_option maxRecDepth 100000 in
set_option maxHeartbeats 8000000 in
theorem tell44 (w : World) : Calls Tryz.prog 44 #[.agg #[.bool true, .string ⟨#[100, 101, 99, 105, 109, 97, 108]⟩, .string ⟨#[49, 50]⟩, .int .i64 2, .int .i64 0, .int .u64 12, .float .f64 0], .agg #[.int .i64 1, .int .i64 10, .bool false, .int .u64 12, .float .f64 0]] w fun e w' => e = .returned (.bool true) ∧ Below w.heap.size w w' := by
  go_enter Tryz.func44, Tryz.ntmps44
  go_wp2_with fail
  go_ret
  exact ⟨rfl, ((Below.refl _ _).alloc (Nat.le_refl _) _).alloc (by simp) _⟩

/-- Two lines. -/
abbrev ab : ByteArray := ⟨#[97, 10, 98, 10]⟩
theorem cnt_ab (t : ByteArray) (n : Nat) (ht : 0 < t.size) (ht2 : t.size ≤ 1000) (h : cnt ab t = n) (w : World) : Calls Tryz.prog 138 #[.string ⟨#[97, 10, 98, 10]⟩, .string t] w fun e w' => e = .returned (.int .i64 n) ∧ w = w' := by
  have := count138 ab t w (by decide) ht ht2
  rw [h] at this
  exact this
set_option maxRecDepth 100000 in
set_option maxHeartbeats 4000000 in
theorem break143 (w : World) : Calls Tryz.prog 143 #[.string ⟨#[97, 10, 98, 10]⟩] w fun e w' => e = .returned (.string ⟨#[10]⟩) ∧ w = w' := by
  have C1 : Hid (∀ w, Calls Tryz.prog 138 #[.string ⟨#[97, 10, 98, 10]⟩, .string ⟨#[10]⟩] w fun e w' => e = .returned (.int .i64 2) ∧ w = w') := Lib.hid (cnt_ab ⟨#[10]⟩ 2 (by decide) (by decide) (by decide +kernel))
  have C2 : Hid (∀ w, Calls Tryz.prog 138 #[.string ⟨#[97, 10, 98, 10]⟩, .string ⟨#[13]⟩] w fun e w' => e = .returned (.int .i64 0) ∧ w = w') := Lib.hid (cnt_ab ⟨#[13]⟩ 0 (by decide) (by decide) (by decide +kernel))
  have C3 : Hid (∀ w, Calls Tryz.prog 138 #[.string ⟨#[97, 10, 98, 10]⟩, .string ⟨#[13, 10]⟩] w fun e w' => e = .returned (.int .i64 0) ∧ w = w') := Lib.hid (cnt_ab ⟨#[13, 10]⟩ 0 (by decide) (by decide) (by decide +kernel))
  go_enter Tryz.func143, Tryz.ntmps143
  go_wp2_with fail
  refine (C1.out _).mono ?_
  rintro e w' ⟨rfl, rfl⟩
  go_wp2_with fail
  refine (C2.out _).mono ?_
  rintro e w' ⟨rfl, rfl⟩
  go_wp2_with fail
  refine (C3.out _).mono ?_
  rintro e w' ⟨rfl, rfl⟩
  go_wp2_with fail
  go_ret
  exact ⟨rfl, rfl⟩
set_option maxRecDepth 100000 in
set_option maxHeartbeats 4000000 in
theorem has144 (w : World) : Calls Tryz.prog 144 #[.string ⟨#[97, 10, 98, 10]⟩, .string ⟨#[10]⟩] w fun e w' => e = .returned (.bool true) ∧ w = w' := by
  have C : Hid (∀ w, Calls Tryz.prog 187 #[.string ⟨#[97, 10, 98, 10]⟩, .string ⟨#[10]⟩] w fun e w' => (∃ i : Nat, e = .returned (.int .i64 i)) ∧ w = w') := Lib.hid (fun w => (index187 ab ⟨#[10]⟩ w (by decide) (by decide)).mono (by
    rintro e w' ⟨⟨-, h⟩ | ⟨i, rfl, -⟩, rfl⟩
    · exact absurd (show (ab.data.toList.drop 1).take 1 = [10] by decide) (h 1 (by decide))
    · exact ⟨⟨i, rfl⟩, rfl⟩))
  go_enter Tryz.func144, Tryz.ntmps144
  go_wp2_with (go_at_call 187; refine (C.out _).mono ?_; rintro e w' ⟨⟨i, rfl⟩, rfl⟩)
  go_ret
  exact ⟨by simp, rfl⟩
theorem suf_ab (t : ByteArray) (v : Bool) (h : sufB ab t = v) (w : World) : Calls Tryz.prog 145 #[.string ⟨#[97, 10, 98, 10]⟩, .string t] w fun e w' => e = .returned (.bool v) ∧ w = w' := by
  have := hasSuf145 ab t w (by decide)
  rw [h] at this
  exact this
set_option maxRecDepth 100000 in
set_option maxHeartbeats 4000000 in
theorem header94 (w : World) : Calls Tryz.prog 94 #[.string ⟨#[97, 10, 98, 10]⟩] w fun e w' => e = .returned (.string ⟨#[124]⟩) ∧ w = w' := by
  have C1 := Lib.hid break143
  have C2 := Lib.hid has144
  have C3 := Lib.hid (suf_ab (⟨#[10]⟩ ++ ⟨#[10]⟩) false (by decide +kernel))
  have C4 := Lib.hid (suf_ab ⟨#[10]⟩ true (by decide +kernel))
  have hz : (⟨#[10]⟩ : ByteArray).size = 1 := rfl
  go_enter Tryz.func94, Tryz.ntmps94
  go_wp2_with fail
  refine (C1.out _).mono ?_
  rintro e w' ⟨rfl, rfl⟩
  go_wp2_with fail
  refine (C2.out _).mono ?_
  rintro e w' ⟨rfl, rfl⟩
  go_wp2_with fail
  refine (C3.out _).mono ?_
  rintro e w' ⟨rfl, rfl⟩
  go_wp2_with fail
  refine (C4.out _).mono ?_
  rintro e w' ⟨rfl, rfl⟩
  go_wp2_with fail
  go_ret
  exact ⟨rfl, rfl⟩
set_option maxHeartbeats 1000000 in
theorem header45 (w : World) : Calls Tryz.prog 45 #[.string ⟨#[97, 10, 98, 10]⟩] w fun e w' => e = .returned (.string ⟨#[124]⟩) ∧ w = w' := by
  have C1 := Lib.hid header94
  go_enter Tryz.func45, Tryz.ntmps45
  go_wp2_with (go_at_call 94; refine (C1.out _).mono ?_; rintro e w' ⟨rfl, rfl⟩)
  go_ret
  exact ⟨rfl, rfl⟩
set_option maxHeartbeats 4000000 in
theorem lives23 (w : World) : Calls Tryz.prog 23 #[] w fun e w' => e = .returned (.bool true) ∧ Below w.heap.size w w' := by
  have C1 := Lib.hid tw22
  have C2 := Lib.hid tell44
  have C3 := Lib.hid header45
  unfold twNum at C1
  go_enter Tryz.func23, Tryz.ntmps23
  go_wp2_with fail
  refine (C1.out _).mono ?_
  rintro e w1 ⟨rfl, hB⟩
  have HB := Lib.hid hB
  clear hB
  go_wp2_with fail
  refine (C2.out _).mono ?_
  rintro e w2 ⟨rfl, hB⟩
  have HB2 := Lib.hid (HB.out.trans (hB.mono HB.out.size))
  clear hB
  go_wp2_with (go_at_call 45; refine (C3.out _).mono ?_; rintro e w' ⟨rfl, rfl⟩)
  go_ret
  exact ⟨rfl, HB2.out⟩
end Go.Proofs.YtpjfmfaijcbopaaGreatDoor
