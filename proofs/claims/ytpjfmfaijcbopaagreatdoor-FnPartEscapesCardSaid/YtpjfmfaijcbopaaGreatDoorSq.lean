/- impl.ScanQuoted. -/
import Derived.Test.YtpjfmfaijcbopaaGreatDoorZq
namespace Go.Proofs.YtpjfmfaijcbopaaGreatDoor
open Go.RowKit Go.Proofs

def zeroTok : List Value := [.int .i64 0, .int .i64 0, .int .i64 0, .string ⟨#[]⟩, .string ⟨#[]⟩, .string ⟨#[]⟩, .int .i64 0, .int .i64 0, .int .i64 0, .int .i64 0, .int .i64 0, .int .i64 0, .int .i64 0]
/-- What ScanQuoted answers. -/
def SqEnd (ty : Int) (n : Nat) (T : Option (List Int)) (w : World) (e : Ending) (w' : World) : Prop :=
  Below w.heap.size w w' ∧ (∀ vals, T = some vals → ∃ org a b c d f, e = .returned (.tuple #[.agg (tokOut ty 0 6 (runesBytes vals) org ⟨#[]⟩ a b c d f).toArray, .int .i64 ((n + 2 : Nat) : Int), .bool true])) ∧
  (T = none → e = .returned (.tuple #[.agg zeroTok.toArray, .int .i64 0, .bool false]))

theorem set13 {w1 : World} {b : Nat} {zs : List Value} (h : Blk w1 b zs 31) (hz : zs.length = 13) (v0 v1 v2 v3 v4 v5 v6 v7 v8 v9 v10 v11 v12 : Value) : Blk (((((((((((((w1.setCell ⟨b, 0, none⟩ v0).setCell ⟨b, 1, none⟩ v1).setCell ⟨b, 2, none⟩ v2).setCell ⟨b, 3, none⟩ v3).setCell ⟨b, 4, none⟩ v4).setCell ⟨b, 5, none⟩ v5).setCell ⟨b, 6, none⟩ v6).setCell ⟨b, 7, none⟩ v7).setCell ⟨b, 8, none⟩ v8).setCell ⟨b, 9, none⟩ v9).setCell ⟨b, 10, none⟩ v10).setCell ⟨b, 11, none⟩ v11).setCell ⟨b, 12, none⟩ v12) b [v0, v1, v2, v3, v4, v5, v6, v7, v8, v9, v10, v11, v12] 31 := by
  have e : (((((((((((((zs.set 0 v0).set 1 v1).set 2 v2).set 3 v3).set 4 v4).set 5 v5).set 6 v6).set 7 v7).set 8 v8).set 9 v9).set 10 v10).set 11 v11).set 12 v12) = [v0, v1, v2, v3, v4, v5, v6, v7, v8, v9, v10, v11, v12] := by
    match zs, hz with
    | [_, _, _, _, _, _, _, _, _, _, _, _, _], _ => rfl
  rw [← e]
  exact (((((((((((((h.set 0 v0).set 1 v1).set 2 v2).set 3 v3).set 4 v4).set 5 v5).set 6 v6).set 7 v7).set 8 v8).set 9 v9).set 10 v10).set 11 v11).set 12 v12)
theorem below13 {w w1 : World} {B b : Nat} (h : Below B w w1) (hB : B ≤ b) (v0 v1 v2 v3 v4 v5 v6 v7 v8 v9 v10 v11 v12 : Value) : Below B w (((((((((((((w1.setCell ⟨b, 0, none⟩ v0).setCell ⟨b, 1, none⟩ v1).setCell ⟨b, 2, none⟩ v2).setCell ⟨b, 3, none⟩ v3).setCell ⟨b, 4, none⟩ v4).setCell ⟨b, 5, none⟩ v5).setCell ⟨b, 6, none⟩ v6).setCell ⟨b, 7, none⟩ v7).setCell ⟨b, 8, none⟩ v8).setCell ⟨b, 9, none⟩ v9).setCell ⟨b, 10, none⟩ v10).setCell ⟨b, 11, none⟩ v11).setCell ⟨b, 12, none⟩ v12) := (((((((((((((h.setCell hB v0).setCell hB v1).setCell hB v2).setCell hB v3).setCell hB v4).setCell hB v5).setCell hB v6).setCell hB v7).setCell hB v8).setCell hB v9).setCell hB v10).setCell hB v11).setCell hB v12)

attribute [-go_sem] Instr.build
set_option maxRecDepth 100000 in
set_option maxHeartbeats 8000000 in
theorem scanQuotedImpl (s : ByteArray) (bq : Bool) (ty : Int) (n : Nat) (T : Option (List Int)) (w : World) (hz : ∀ w, Calls Tryz.prog 51 #[.string s, .bool bq] w (ZqEnd ty n T w)) :
    Calls Tryz.prog 28 #[.string s, .bool bq] w (SqEnd ty n T w) := by
  have HZ := Lib.hid hz
  clear hz
  have hbuild : ∀ w : World, (Instr.build 31 #[]).run Tryz.prog w = .ok (.agg zeroTok.toArray) w := fun w => run_build (P := Tryz.prog) w 31 _ _ (by kernel_rfl)
  have HBU := Lib.hid hbuild
  clear hbuild
  go_enter Tryz.func28, Tryz.ntmps28
  go_wp2_with fail
  refine (HZ.out _).mono ?_
  rintro e w1 ⟨hb, h1, h2⟩
  have hbt : Blk w1 w.heap.size zeroTok 31 := (Kept.of_below (S := fun _ => False) hb).blk (Blk.new w zeroTok 31) (fun h => h)
  have HBT := Lib.hid hbt
  have HB : Hid (Below w.heap.size w w1) := Lib.hid (((Below.refl _ w).alloc (Nat.le_refl _) _).trans (hb.mono (by simp)))
  have lt := hbt.lt
  have f0 := hbt.free 0
  have z0 := hbt.cell 0 _ rfl
  have f1 := hbt.free 1
  have z1 := hbt.cell 1 _ rfl
  have f2 := hbt.free 2
  have z2 := hbt.cell 2 _ rfl
  have f3 := hbt.free 3
  have z3 := hbt.cell 3 _ rfl
  have f4 := hbt.free 4
  have z4 := hbt.cell 4 _ rfl
  have f5 := hbt.free 5
  have z5 := hbt.cell 5 _ rfl
  have f6 := hbt.free 6
  have z6 := hbt.cell 6 _ rfl
  have f7 := hbt.free 7
  have z7 := hbt.cell 7 _ rfl
  have f8 := hbt.free 8
  have z8 := hbt.cell 8 _ rfl
  have f9 := hbt.free 9
  have z9 := hbt.cell 9 _ rfl
  have f10 := hbt.free 10
  have z10 := hbt.cell 10 _ rfl
  have f11 := hbt.free 11
  have z11 := hbt.cell 11 _ rfl
  have f12 := hbt.free 12
  have z12 := hbt.cell 12 _ rfl
  have H1 := Lib.hid h1
  have H2 := Lib.hid h2
  clear hb h1 h2 hbt HZ
  cases T with
  | none =>
    obtain ⟨t, a, x, rfl⟩ := H2.out rfl
    have hbuild := HBU.out
    unfold zeroTok at hbuild
    clear H1 H2 HBU
    go_wp2_with fail
    have hW13 := set13 HBT.out rfl (.int .i64 0) (.int .i64 0) (.int .i64 0) (.string ⟨#[]⟩) (.string ⟨#[]⟩) (.string ⟨#[]⟩) (.int .i64 0) (.int .i64 0) (.int .i64 0) (.int .i64 0) (.int .i64 0) (.int .i64 0) (.int .i64 0)
    have hB13 := below13 HB.out (Nat.le_refl _) (.int .i64 0) (.int .i64 0) (.int .i64 0) (.string ⟨#[]⟩) (.string ⟨#[]⟩) (.string ⟨#[]⟩) (.int .i64 0) (.int .i64 0) (.int .i64 0) (.int .i64 0) (.int .i64 0) (.int .i64 0) (.int .i64 0)
    obtain ⟨W, hW⟩ : ∃ W, (((((((((((((w1.setCell ⟨w.heap.size, 0, none⟩ (.int .i64 0)).setCell ⟨w.heap.size, 1, none⟩ (.int .i64 0)).setCell ⟨w.heap.size, 2, none⟩ (.int .i64 0)).setCell ⟨w.heap.size, 3, none⟩ (.string ⟨#[]⟩)).setCell ⟨w.heap.size, 4, none⟩ (.string ⟨#[]⟩)).setCell ⟨w.heap.size, 5, none⟩ (.string ⟨#[]⟩)).setCell ⟨w.heap.size, 6, none⟩ (.int .i64 0)).setCell ⟨w.heap.size, 7, none⟩ (.int .i64 0)).setCell ⟨w.heap.size, 8, none⟩ (.int .i64 0)).setCell ⟨w.heap.size, 9, none⟩ (.int .i64 0)).setCell ⟨w.heap.size, 10, none⟩ (.int .i64 0)).setCell ⟨w.heap.size, 11, none⟩ (.int .i64 0)).setCell ⟨w.heap.size, 12, none⟩ (.int .i64 0)) = W := ⟨_, rfl⟩
    rw [hW] at hW13 hB13 ⊢
    clear hW
    have y0 := hW13.cell 0 _ rfl
    have y1 := hW13.cell 1 _ rfl
    have y2 := hW13.cell 2 _ rfl
    have y3 := hW13.cell 3 _ rfl
    have y4 := hW13.cell 4 _ rfl
    have y5 := hW13.cell 5 _ rfl
    have y6 := hW13.cell 6 _ rfl
    have y7 := hW13.cell 7 _ rfl
    have y8 := hW13.cell 8 _ rfl
    have y9 := hW13.cell 9 _ rfl
    have y10 := hW13.cell 10 _ rfl
    have y11 := hW13.cell 11 _ rfl
    have y12 := hW13.cell 12 _ rfl
    refine bodyPost_ret (v := .tuple #[.agg #[.int .i64 0, .int .i64 0, .int .i64 0, .string ⟨#[]⟩, .string ⟨#[]⟩, .string ⟨#[]⟩, .int .i64 0, .int .i64 0, .int .i64 0, .int .i64 0, .int .i64 0, .int .i64 0, .int .i64 0], .int .i64 0, .bool false]) (by simp [results, Tryz.results28, go_sem, y0, y1, y2, y3, y4, y5, y6, y7, y8, y9, y10, y11, y12]) rfl ?_
    exact ⟨hB13, fun vals hv => (by cases hv), fun _ => rfl⟩
  | some vals =>
    obtain ⟨tb, pb, org, ps, rfl, ht, hp⟩ := H1.out vals rfl
    have HT := Lib.hid ht
    have HP := Lib.hid hp
    clear H1 H2 HBU ht hp
    clear f0 z0 f1 z1 f2 z2 f3 z3 f4 z4 f5 z5 f6 z6 f7 z7 f8 z8 f9 z9 f10 z10 f11 z11 f12 z12
    go_wp2_with fail
    have hc1 : (w1.alloc (.cells #[.pointer (some ⟨tb, 0, none⟩)] 56)).cell? ⟨w1.heap.size, 0, none⟩ = some (.pointer (some ⟨tb, 0, none⟩)) := (Blk.new w1 [.pointer (some ⟨tb, 0, none⟩)] 56).cell 0 _ rfl
    have cL := list1 w1.heap.size 1 tb pb ty 0 6 (runesBytes vals) org ⟨#[]⟩ ps.line ps.col ps.off ps.ind ps.lvl _ hc1 (HT.out.alloc _) (HP.out.alloc _)
    refine cL.mono ?_
    rintro e w2 ⟨g, c, rfl, hg, hcs, hb2⟩
    clear cL hc1
    have hbt2 : Blk w2 w.heap.size zeroTok 31 := (Kept.of_below (S := fun _ => False) hb2).blk (HBT.out.alloc _) (fun h => h)
    have HBT2 := Lib.hid hbt2
    have HB2 : Hid (Below w.heap.size w w2) := Lib.hid ((HB.out.alloc (by have := HB.out.size; omega) _).trans (hb2.mono (by have := HB.out.size; simp; omega)))
    have f0 := hbt2.free 0
    have z0 := hbt2.cell 0 _ rfl
    have d0 := hcs 0 _ rfl
    have f1 := hbt2.free 1
    have z1 := hbt2.cell 1 _ rfl
    have d1 := hcs 1 _ rfl
    have f2 := hbt2.free 2
    have z2 := hbt2.cell 2 _ rfl
    have d2 := hcs 2 _ rfl
    have f3 := hbt2.free 3
    have z3 := hbt2.cell 3 _ rfl
    have d3 := hcs 3 _ rfl
    have f4 := hbt2.free 4
    have z4 := hbt2.cell 4 _ rfl
    have d4 := hcs 4 _ rfl
    have f5 := hbt2.free 5
    have z5 := hbt2.cell 5 _ rfl
    have d5 := hcs 5 _ rfl
    have f6 := hbt2.free 6
    have z6 := hbt2.cell 6 _ rfl
    have d6 := hcs 6 _ rfl
    have f7 := hbt2.free 7
    have z7 := hbt2.cell 7 _ rfl
    have d7 := hcs 7 _ rfl
    have f8 := hbt2.free 8
    have z8 := hbt2.cell 8 _ rfl
    have d8 := hcs 8 _ rfl
    have f9 := hbt2.free 9
    have z9 := hbt2.cell 9 _ rfl
    have d9 := hcs 9 _ rfl
    have f10 := hbt2.free 10
    have z10 := hbt2.cell 10 _ rfl
    have d10 := hcs 10 _ rfl
    have f11 := hbt2.free 11
    have z11 := hbt2.cell 11 _ rfl
    have d11 := hcs 11 _ rfl
    have f12 := hbt2.free 12
    have z12 := hbt2.cell 12 _ rfl
    have d12 := hcs 12 _ rfl
    clear hb2 hcs hbt2
    go_wp2_with fail
    have hW13 := set13 HBT2.out rfl (.int .i64 ty) (.int .i64 0) (.int .i64 6) (.string (runesBytes vals)) (.string org) (.string ⟨#[]⟩) (.int .i64 ps.line) (.int .i64 ps.col) (.int .i64 ps.off) (.int .i64 ps.ind) (.int .i64 ps.lvl) (.int .i64 (-1)) (.int .i64 (-1))
    have hB13 := below13 HB2.out (Nat.le_refl _) (.int .i64 ty) (.int .i64 0) (.int .i64 6) (.string (runesBytes vals)) (.string org) (.string ⟨#[]⟩) (.int .i64 ps.line) (.int .i64 ps.col) (.int .i64 ps.off) (.int .i64 ps.ind) (.int .i64 ps.lvl) (.int .i64 (-1)) (.int .i64 (-1))
    obtain ⟨W, hW⟩ : ∃ W, (((((((((((((w2.setCell ⟨w.heap.size, 0, none⟩ (.int .i64 ty)).setCell ⟨w.heap.size, 1, none⟩ (.int .i64 0)).setCell ⟨w.heap.size, 2, none⟩ (.int .i64 6)).setCell ⟨w.heap.size, 3, none⟩ (.string (runesBytes vals))).setCell ⟨w.heap.size, 4, none⟩ (.string org)).setCell ⟨w.heap.size, 5, none⟩ (.string ⟨#[]⟩)).setCell ⟨w.heap.size, 6, none⟩ (.int .i64 ps.line)).setCell ⟨w.heap.size, 7, none⟩ (.int .i64 ps.col)).setCell ⟨w.heap.size, 8, none⟩ (.int .i64 ps.off)).setCell ⟨w.heap.size, 9, none⟩ (.int .i64 ps.ind)).setCell ⟨w.heap.size, 10, none⟩ (.int .i64 ps.lvl)).setCell ⟨w.heap.size, 11, none⟩ (.int .i64 (-1))).setCell ⟨w.heap.size, 12, none⟩ (.int .i64 (-1))) = W := ⟨_, rfl⟩
    rw [hW] at hW13 hB13 ⊢
    clear hW
    have y0 := hW13.cell 0 _ rfl
    have y1 := hW13.cell 1 _ rfl
    have y2 := hW13.cell 2 _ rfl
    have y3 := hW13.cell 3 _ rfl
    have y4 := hW13.cell 4 _ rfl
    have y5 := hW13.cell 5 _ rfl
    have y6 := hW13.cell 6 _ rfl
    have y7 := hW13.cell 7 _ rfl
    have y8 := hW13.cell 8 _ rfl
    have y9 := hW13.cell 9 _ rfl
    have y10 := hW13.cell 10 _ rfl
    have y11 := hW13.cell 11 _ rfl
    have y12 := hW13.cell 12 _ rfl
    refine bodyPost_ret (v := .tuple #[.agg #[.int .i64 ty, .int .i64 0, .int .i64 6, .string (runesBytes vals), .string org, .string ⟨#[]⟩, .int .i64 ps.line, .int .i64 ps.col, .int .i64 ps.off, .int .i64 ps.ind, .int .i64 ps.lvl, .int .i64 (-1), .int .i64 (-1)], .int .i64 ((n + 2 : Nat) : Int), .bool true]) (by simp [results, Tryz.results28, go_sem, y0, y1, y2, y3, y4, y5, y6, y7, y8, y9, y10, y11, y12]) rfl ?_
    exact ⟨hB13, fun vals' hv => (by cases hv; exact ⟨org, _, _, _, _, _, rfl⟩), fun h => (by cases h)⟩
end Go.Proofs.YtpjfmfaijcbopaaGreatDoor
