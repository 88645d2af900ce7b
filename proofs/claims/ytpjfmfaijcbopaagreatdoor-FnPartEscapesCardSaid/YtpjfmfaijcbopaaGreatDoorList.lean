/- What impl.list makes of a list of one token. -/
import Derived.Test.YtpjfmfaijcbopaaGreatDoorDocB
import Derived.Deep.AppendLies
namespace Go.Proofs.YtpjfmfaijcbopaaGreatDoor
open Go.RowKit

/-- A token of the package. -/
def tokC (ty ch sg : Int) (val org err : ByteArray) (pos : Value) : List Value :=
  [.int .i64 ty, .int .i64 ch, .int .i64 sg, .string val, .string org, .string err, pos, .pointer none, .pointer none]
def ints5 (a b c d e : Int) : List Value := [.int .i64 a, .int .i64 b, .int .i64 c, .int .i64 d, .int .i64 e]

set_option maxHeartbeats 2000000 in
theorem place58 (tb pb : Nat) (cs : List Value) (a b c d f : Int) (w : World) (hx : Blk w tb cs 108) (h6 : cs[6]? = some (.pointer (some ⟨pb, 0, none⟩))) (hp : Blk w pb (ints5 a b c d f) 116) :
    Calls Tryz.prog 58 #[.pointer (some ⟨tb, 0, none⟩)] w fun e w' => e = .returned (.agg (ints5 a b c d f).toArray) ∧ Below w.heap.size w w' := by
  have x6 := hx.cell 6 _ h6
  have p0 := hp.cell 0 _ rfl
  have p1 := hp.cell 1 _ rfl
  have p2 := hp.cell 2 _ rfl
  have p3 := hp.cell 3 _ rfl
  have p4 := hp.cell 4 _ rfl
  have n0 := World.new_ne w _ p0
  have lt := hx.lt
  have lp := hp.lt
  clear hx h6 hp
  go_enter Tryz.func58, Tryz.ntmps58
  go_wp2
  go_region_held3 (fun w' => w'.cell? ⟨pb, 0, none⟩ = some (.int .i64 a) ∧ w'.cell? ⟨pb, 1, none⟩ = some (.int .i64 b) ∧ w'.cell? ⟨pb, 2, none⟩ = some (.int .i64 c) ∧ w'.cell? ⟨pb, 3, none⟩ = some (.int .i64 d) ∧ w'.cell? ⟨pb, 4, none⟩ = some (.int .i64 f))
    (go_keep) (fail)
  go_wp2
  refine bodyPost_ret (v := .agg #[.int .i64 a, .int .i64 b, .int .i64 c, .int .i64 d, .int .i64 f]) (by simp [results, Tryz.results58, go_sem]) rfl ⟨rfl, ?_⟩
  exact ((Below.refl _ _).alloc (Nat.le_refl _) _).drew

set_option maxHeartbeats 1000000 in
theorem index59 (l : Value) (m : Int) (w : World) : Calls Tryz.prog 59 #[l, .pointer none, .int .i64 m] w fun e w' => e = .returned (.int .i64 (-1)) ∧ w = w' := by
  go_enter Tryz.func59, Tryz.ntmps59
  go_wp2
  go_ret
  exact ⟨rfl, rfl⟩

theorem Tinfo31 : (Tryz.prog.info? 31).map (fun i => (i.zero, i.size, i.bytes)) = some (some (.agg #[.int .i64 0, .int .i64 0, .int .i64 0, .string ⟨#[]⟩, .string ⟨#[]⟩, .string ⟨#[]⟩, .int .i64 0, .int .i64 0, .int .i64 0, .int .i64 0, .int .i64 0, .int .i64 0, .int .i64 0]), 13, 128) := by kernel_rfl

/-- What list tells of a token with nothing beside it. -/
def tokOut (ty ch sg : Int) (val org err : ByteArray) (a b c d f : Int) : List Value :=
  [.int .i64 ty, .int .i64 ch, .int .i64 sg, .string val, .string org, .string err, .int .i64 a, .int .i64 b, .int .i64 c, .int .i64 d, .int .i64 f, .int .i64 (-1), .int .i64 (-1)]

/-- What a list of one token is. -/
def One (xs : List Value) (e : Ending) (w w' : World) : Prop :=
  ∃ g c, e = .returned (.slice (some ⟨g, 0, none⟩) 1 c) ∧ w.heap.size ≤ g ∧ (∀ j u, xs[j]? = some u → w'.cell? ⟨g, j, none⟩ = some u) ∧ Below w.heap.size w w'

theorem build31 (ty ch sg : Int) (val org err : ByteArray) (a b c d f i j : Int) (w : World) :
    (Instr.build 31 #[(0, .int .i64 ty), (1, .int .i64 ch), (2, .int .i64 sg), (3, .string val), (4, .string org), (5, .string err), (6, .agg (ints5 a b c d f).toArray), (7, .int .i64 i), (8, .int .i64 j)]).run Tryz.prog w =
      .ok (.agg #[.int .i64 ty, .int .i64 ch, .int .i64 sg, .string val, .string org, .string err, .int .i64 a, .int .i64 b, .int .i64 c, .int .i64 d, .int .i64 f, .int .i64 i, .int .i64 j]) w :=
  run_build (P := Tryz.prog) w 31 _ _ (by kernel_rfl)

attribute [-go_sem] Instr.build
set_option maxRecDepth 100000 in
set_option maxHeartbeats 4000000 in
theorem list1 (g c0 tb pb : Nat) (ty ch sg : Int) (val org err : ByteArray) (a b c d f : Int) (w : World) (hg : w.cell? ⟨g, 0, none⟩ = some (.pointer (some ⟨tb, 0, none⟩)))
    (hx : Blk w tb (tokC ty ch sg val org err (.pointer (some ⟨pb, 0, none⟩))) 108) (hp : Blk w pb (ints5 a b c d f) 116) :
    Calls Tryz.prog 34 #[.slice (some ⟨g, 0, none⟩) 1 c0] w fun e w' => One (tokOut ty ch sg val org err a b c d f) e w w' := by
  obtain ⟨i0, hi, hz0, hz1, hz2⟩ := info_parts Tinfo31
  have x0 := hx.cell 0 _ rfl
  have x1 := hx.cell 1 _ rfl
  have x2 := hx.cell 2 _ rfl
  have x3 := hx.cell 3 _ rfl
  have x4 := hx.cell 4 _ rfl
  have x5 := hx.cell 5 _ rfl
  have x7 := hx.cell 7 _ rfl
  have x8 := hx.cell 8 _ rfl
  have lx := hx.lt
  have hbuild := build31 ty ch sg val org err a b c d f (-1) (-1)
  have HX := Lib.hid hx
  have HP := Lib.hid hp
  clear hx hp
  go_enter Tryz.func34, Tryz.ntmps34
  go_wp2
  refine wp_loop_rounds 2 ?_
  rw [rounds_succ]
  go_wp2
  go_region_held3 (fun w' => w'.cell? ⟨tb, 0, none⟩ = some (.int .i64 ty) ∧ w'.cell? ⟨tb, 1, none⟩ = some (.int .i64 ch) ∧ w'.cell? ⟨tb, 2, none⟩ = some (.int .i64 sg) ∧ w'.cell? ⟨tb, 3, none⟩ = some (.string val) ∧
      w'.cell? ⟨tb, 4, none⟩ = some (.string org) ∧ w'.cell? ⟨tb, 5, none⟩ = some (.string err) ∧ w'.cell? ⟨tb, 7, none⟩ = some (.pointer none) ∧ w'.cell? ⟨tb, 8, none⟩ = some (.pointer none))
    (first | go_keep | exact ⟨hc2 _ _ x0, hc2 _ _ x1, hc2 _ _ x2, hc2 _ _ x3, hc2 _ _ x4, hc2 _ _ x5, hc2 _ _ x7, hc2 _ _ x8⟩)
    (first
      | (go_at_call 58; refine (place58 tb pb _ a b c d f _ HX.out.drew rfl HP.out.drew).mono ?_; rintro e w1 ⟨rfl, hb1⟩; have hc1 : ∀ i, w1.cell? ⟨tb, i, none⟩ = w.cell? ⟨tb, i, none⟩ := fun i => (hb1.cell (p := ⟨tb, i, none⟩) lx))
      | (go_at_call 59; refine (index59 _ _ _).mono ?_; rintro e w' ⟨rfl, rfl⟩)
      | (refine step_append_lies _ (by rfl) (.tmp 13) (.tmp 57) 24 (by rfl) w.heap.size 31 i0 _ 13 128 Tryz.underlying24 hi hz0 hz1 hz2 rfl (by omega) (.slice none 0 0) 0 [] (by rfl) (World.ownsRow_nil _ _ _ _)
          ⟨w1.heap.size, 0, none⟩ 1 1 (tokOut ty ch sg val org err a b c d f) (by rfl) (by rfl) (World.news_of_block (cs := (tokOut ty ch sg val org err a b c d f).toArray) (t := 31) (fr := (0, 0)) (heap_alloc_new w1 _)) (by simp [tokOut, Value.oneCell'])
          (by omega) (by unfold maxLen; omega) (by omega) (by have := hb1.size; simp at this ⊢; omega) (w1.heap.size + 1) (by simp) ?_; intro gg cap w2 hown2 hgrow hat hlt;
          have hk1 : Kept (fun _ => False) w w1 := Kept.of_below (a := w) ⟨hb1.os, hb1.tape, hb1.output, hb1.size, hb1.block⟩;
          have hk2 : Kept (fun _ => False) w w2 := (hk1.alloc _).grown hgrow (fun k hk => by cases hk);
          have hc2 : ∀ i v, w.cell? ⟨tb, i, none⟩ = some v → w2.cell? ⟨tb, i, none⟩ = some v := fun i v h => hk2.cell h (fun h => h))
      )
  go_wp2
  rw [rounds_succ]
  go_wp2
  refine bodyPost_ret (v := .slice (some ⟨gg, 0, none⟩) 1 cap) (by simp [results, Tryz.results34, go_sem]) rfl ?_
  refine ⟨gg, cap, rfl, ?_, fun j u hu => ?_, hk2.below (Nat.le_refl _) (fun _ _ h => h)⟩
  · rcases hat with hat | hat
    · cases hat
    · have := hk1.size
      omega
  · have hc := hown2.cells (g := gg) rfl j u (by simpa using hu)
    have hadd : (⟨gg, 0, none⟩ : Addr).add j = ⟨gg, j, none⟩ := by unfold Addr.add; split <;> simp_all
    rw [hadd] at hc
    exact hc
end Go.Proofs.YtpjfmfaijcbopaaGreatDoor
