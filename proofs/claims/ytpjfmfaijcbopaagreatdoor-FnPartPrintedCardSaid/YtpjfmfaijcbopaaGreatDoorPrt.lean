/- The printer's parts: zzIndex, zzSplit, property. -/
import Derived.Test.YtpjfmfaijcbopaaGreatDoorSpecB
import Derived.Test.YtpjfmfaijcbopaaGreatDoorList
namespace Go.Proofs.YtpjfmfaijcbopaaGreatDoor
open Go.RowKit

theorem ext1 (s : ByteArray) (n : Nat) (h : n < s.size) (hb : by' s n ≠ 10) : ((s.extract n (n + 1)).toList == [10]) = false := by
  have hn : n < s.data.toList.length := by simpa using h
  have e : (s.extract n (n + 1)).toList = [s.data.toList[n]] := by
    rw [ByteArray.toList_eq, ByteArray.data_extract, Array.toList_extract, List.extract_eq_take_drop, List.drop_eq_getElem_cons hn, show n + 1 - n = 1 by omega]
    rfl
  rw [e]
  unfold by' at hb
  rw [List.getD, List.getElem?_eq_getElem hn] at hb
  simp only [Option.getD_some] at hb
  have h1 : (s.data.toList[n] == 10) = false := by
    rw [beq_eq_false_iff_ne]
    intro e2
    rw [e2] at hb
    exact hb rfl
  show (s.data.toList[n] == 10 && true) = false
  rw [h1]
  rfl

set_option maxHeartbeats 2000000 in
theorem index120 (s : ByteArray) (w : World) (hs : s.size ≤ 9223372036854775806) (hno : ∀ i, i < s.size → by' s i ≠ 10) :
    Calls Tryz.prog 120 #[.string s, .string ⟨#[10]⟩] w fun e w' => e = .returned (.int .i64 (-1)) ∧ w = w' := by
  go_enter Tryz.func120, Tryz.ntmps120
  go_wp2
  go_loopw [5] (fun i wr => ∃ n : Nat, n ≤ s.size ∧ i = .int .i64 n ∧ w = wr) (fun i _ => s.size - (intOf i).toNat)
  case atStart => exact ⟨0, Nat.zero_le _, rfl, rfl⟩
  case round =>
    obtain ⟨n, hn, rfl, rfl⟩ := hrel
    by_cases hlt : n < s.size
    · have hw1 : IntKind.i64.wrap ((n : Int) + 1) = (n : Int) + 1 := IntWalk.i64_in _ (by omega)
      have hle : (n : Int) + 1 ≤ (s.size : Int) := by omega
      have hne := ext1 s n hlt (hno n hlt)
      go_wp2
      go_roundw
      case rel => exact ⟨n + 1, by omega, by go_num, trivial⟩
      case measure => simp [intOf]; omega
    · have hw1 : IntKind.i64.wrap ((n : Int) + 1) = (n : Int) + 1 := IntWalk.i64_in _ (by omega)
      have hle : ¬ (n : Int) + 1 ≤ (s.size : Int) := by omega
      go_wp2
      go_ret
      exact ⟨rfl, rfl⟩

theorem Tinfo9 : (Tryz.prog.info? 9).map (fun i => (i.zero, i.size, i.bytes)) = some (some (.string ⟨#[]⟩), 1, 16) := by kernel_rfl

set_option maxRecDepth 100000 in
set_option maxHeartbeats 4000000 in
theorem split86 (s : ByteArray) (w : World) (hs : s.size ≤ 9223372036854775806) (hno : ∀ i, i < s.size → by' s i ≠ 10) :
    Calls Tryz.prog 86 #[.string s, .string ⟨#[10]⟩] w fun e w' => ∃ g c, e = .returned (.slice (some ⟨g, 0, none⟩) 1 c) ∧ w'.cell? ⟨g, 0, none⟩ = some (.string s) ∧ Below w.heap.size w w' := by
  go_enter Tryz.func86, Tryz.ntmps86
  go_wp2_with fail
  refine wp_loop_rounds 1 ?_
  rw [rounds_succ]
  go_wp2_with (first | (go_at_call 120; refine (index120 s _ hs hno).mono ?_; rintro e w1 ⟨rfl, rfl⟩) | fail)
  refine bodyPost_ret (v := .slice (some ⟨w.heap.size + 1, 0, none⟩) 1 ((Question.appendCap 1 0 9).cut (w.tape w.drawn (Question.appendCap 1 0 9)))) (by simp [results, Tryz.results86, go_sem]) rfl ?_
  have b1 : Below w.heap.size w (w.alloc (.cells #[.string s] 9)) := (Below.refl _ _).alloc (Nat.le_refl _) _
  refine ⟨_, _, rfl, ?_, (b1.alloc b1.size _).drew⟩
  have hb := heap_alloc2_new w (.cells #[.string s] 9) (.cells (#[.string s] ++ Builtin.zeroCells #[.string ⟨#[]⟩] ((Question.appendCap 1 0 9).cut (w.tape w.drawn (Question.appendCap 1 0 9)) - 1)) 9)
  have hc := cell_of_row _ _ 0 _ _ _ hb
  have he : ∀ X : Array Value, (#[Value.string s] ++ X)[0]? = some (.string s) := fun X => (Array.getElem?_append_left Nat.zero_lt_one).trans rfl
  rw [he] at hc
  exact hc

set_option maxHeartbeats 1000000 in
theorem prevType (tb : Nat) (w : World) (x8 : w.cell? ⟨tb, 8, none⟩ = some (.pointer none)) : Calls Tryz.prog 121 #[.pointer (some ⟨tb, 0, none⟩)] w fun e w' => e = .returned (.int .i64 0) ∧ w = w' := by
  go_enter Tryz.func121, Tryz.ntmps121
  go_wp2
  go_ret
  exact ⟨rfl, rfl⟩
set_option maxHeartbeats 1000000 in
theorem nextType (tb : Nat) (w : World) (x7 : w.cell? ⟨tb, 7, none⟩ = some (.pointer none)) : Calls Tryz.prog 122 #[.pointer (some ⟨tb, 0, none⟩)] w fun e w' => e = .returned (.int .i64 0) ∧ w = w' := by
  go_enter Tryz.func122, Tryz.ntmps122
  go_wp2
  go_ret
  exact ⟨rfl, rfl⟩

set_option maxRecDepth 100000 in
set_option maxHeartbeats 4000000 in
theorem property87 (pp tb : Nat) (val org err : ByteArray) (pos : Value) (w : World) (hx : Blk w tb (tokC 31 2 0 val org err pos) 108) (hp : w.cell? ⟨pp, 6, none⟩ = some .nilFunc) :
    Calls Tryz.prog 87 #[.pointer (some ⟨pp, 0, none⟩), .pointer (some ⟨tb, 0, none⟩)] w fun e w' => ∃ g, e = .returned (.pointer (some ⟨g, 0, none⟩)) ∧ Blk w' g [.string ⟨#[]⟩, .string ⟨#[]⟩] 122 ∧ Below w.heap.size w w' := by
  have hx1 := hx.alloc (.cells #[.string ⟨#[]⟩, .string ⟨#[]⟩] 122)
  have hn1 := Blk.new w [.string ⟨#[]⟩, .string ⟨#[]⟩] 122
  have hp1 : (w.alloc (.cells #[.string ⟨#[]⟩, .string ⟨#[]⟩] 122)).cell? ⟨pp, 6, none⟩ = some .nilFunc := ((Kept.refl (fun _ => False) w).alloc _).cell hp (fun h => h)
  have hb1 : Below w.heap.size w (w.alloc (.cells #[.string ⟨#[]⟩, .string ⟨#[]⟩] 122)) := (Below.refl _ _).alloc (Nat.le_refl _) _
  have hcmp : ∀ w : World, (binOp .neq 62 .nilFunc .nilFunc).run Tryz.prog w = .ok (.bool false) w := fun w => by kernel_rfl
  go_enter Tryz.func87, Tryz.ntmps87
  go_wp2_with fail
  obtain ⟨w1, hw1⟩ : ∃ w1, w.alloc (.cells #[.string ⟨#[]⟩, .string ⟨#[]⟩] 122) = w1 := ⟨_, rfl⟩
  replace hn1 : Blk w1 w.heap.size _ 122 := hw1 ▸ hn1
  rw [hw1] at hx1 hp1 hb1 ⊢
  have x0 := hx1.cell 0 _ rfl
  have x7 := hx1.cell 7 _ rfl
  have x8 := hx1.cell 8 _ rfl
  have HN := Lib.hid hn1
  have HB := Lib.hid hb1
  clear hw1 hx hx1 hn1 hb1 hp
  refine (prevType tb w1 x8).mono ?_
  rintro e w' ⟨rfl, rfl⟩
  go_wp2_with (first | (go_at_call 122; refine (nextType tb w1 x7).mono ?_; rintro e w' ⟨rfl, rfl⟩) | fail)
  go_ret
  exact ⟨_, rfl, HN.out, HB.out⟩

set_option maxHeartbeats 4000000 in
theorem join1 (g c : Nat) (s sep : ByteArray) (w : World) (hg : w.cell? ⟨g, 0, none⟩ = some (.string s)) :
    Calls Tryz.prog 88 #[.slice (some ⟨g, 0, none⟩) 1 c, .string sep] w fun e w' => e = .returned (.string s) ∧ w = w' := by
  go_enter Tryz.func88, Tryz.ntmps88
  go_wp2
  go_ret
  exact ⟨rfl, rfl⟩
end Go.Proofs.YtpjfmfaijcbopaaGreatDoor
