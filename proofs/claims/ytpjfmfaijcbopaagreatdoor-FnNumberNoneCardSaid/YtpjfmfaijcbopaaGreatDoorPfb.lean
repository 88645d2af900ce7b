/- The road of internal/strconv.ParseFloat that scales without a loss. -/
import Derived.Test.YtpjfmfaijcbopaaGreatDoorPfa
import Derived.Test.YtpjfmfaijcbopaaGreatDoorDoc
namespace Go.Proofs.YtpjfmfaijcbopaaGreatDoor
open Go.RowKit Go.Proofs

/-- The table of powers of ten lies in its cells. -/
def PowTab (w : World) : Prop := 12 < w.heap.size ∧ ∀ k, k < 1392 → ∃ v : Nat, v < 18446744073709551616 ∧ w.cell? ⟨12, k, none⟩ = some (.int .u64 v)
theorem PowTab.below {w w' : World} {B : Nat} (h : PowTab w) (hB : Below B w w') (h12 : 12 < B) : PowTab w' := by
  refine ⟨Nat.lt_of_lt_of_le h.1 hB.size, fun k hk => ?_⟩
  rw [hB.cell (show (⟨12, k, none⟩ : Addr).block < _ from h12)]
  exact h.2 k hk
theorem Blk.below {w : World} {b : Nat} {cs : List Value} {t : TypeId} {w0 : World} {B : Nat} (hB : Below B w0 w) (_h : Blk w b cs t) (hb : B ≤ b) (i : Nat) (v : Value) : Below B w0 (w.setCell ⟨b, i, none⟩ v) := hB.setCell hb v
set_option maxRecDepth 100000 in
set_option maxHeartbeats 4000000 in
theorem prescale224 (b : Nat) (x y z : Value) (e lp : Int) (p : Nat) (w : World) (hp : p < 696) (hT : PowTab w) (hb : Blk w b [x, y, z] 253) (h12 : 12 < b) :
    Calls Tryz.prog 224 #[.pointer (some ⟨b, 0, none⟩), .int .i64 e, .int .i64 (p - 348), .int .i64 lp] w fun r w' => r = .returned (.tuple #[]) ∧ (∃ (u v : Nat) (s : Int), u < 18446744073709551616 ∧ v < 18446744073709551616 ∧ Blk w' b [.int .u64 u, .int .u64 v, .int .i64 s] 253) ∧ Below b w w' := by
  obtain ⟨u, hu, hu'⟩ := hT.2 (p * 2) (by omega)
  obtain ⟨v, hv, hv'⟩ := hT.2 (p * 2 + 1) (by omega)
  have hne : ¬ b = 12 := by omega
  have hne' : ¬ 12 = b := by omega
  have c0 := hb.cell 0 _ rfl
  have c1 := hb.cell 1 _ rfl
  have c2 := hb.cell 2 _ rfl
  have f0 := hb.free 0
  have f1 := (hb.set 0 (.int .u64 u)).free 1
  have f2 := ((hb.set 0 (.int .u64 u)).set 1 (.int .u64 v)).free 2
  have HB := Lib.hid hb
  clear hb hT
  go_enter Tryz.func224, Tryz.ntmps224
  go_wp2_with fail
  go_end0
  refine ⟨rfl, ⟨u, v, _, hu, hv, ((HB.out.set 0 _).set 1 _).set 2 _⟩, (((Below.refl _ w).setCell (p := ⟨b, 0, none⟩) (Nat.le_refl _) _).setCell (p := ⟨b, 1, none⟩) (Nat.le_refl _) _).setCell (p := ⟨b, 2, none⟩) (Nat.le_refl _) _⟩
/-- Some uint64. -/
def SomeU (e : Ending) : Prop := ∃ v : Int, e = .returned (.int .u64 v)
set_option maxHeartbeats 1000000 in
theorem unmin231 (x : Int) (w : World) : Calls Tryz.prog 231 #[.int .u64 x] w fun e w' => SomeU e ∧ w = w' := by
  go_enter Tryz.func231, Tryz.ntmps231
  go_wp2_with fail
  go_ret
  exact ⟨⟨_, rfl⟩, rfl⟩
set_option maxHeartbeats 1000000 in
theorem round230 (x : Int) (w : World) : Calls Tryz.prog 230 #[.int .u64 x] w fun e w' => SomeU e ∧ w = w' := by
  go_enter Tryz.func230, Tryz.ntmps230
  go_wp2_with fail
  go_ret
  exact ⟨⟨_, rfl⟩, rfl⟩
set_option maxHeartbeats 1000000 in
theorem log225 (x : Int) (w : World) : Calls Tryz.prog 225 #[.int .i64 x] w fun e w' => (∃ v, e = .returned (.int .i64 v)) ∧ w = w' := by
  go_enter Tryz.func225, Tryz.ntmps225
  go_wp2_with fail
  go_ret
  exact ⟨⟨_, rfl⟩, rfl⟩
set_option maxRecDepth 100000 in
set_option maxHeartbeats 2000000 in
theorem pack251 (m e : Int) (w : World) : Calls Tryz.prog 251 #[.int .u64 m, .int .i64 e] w fun r w' => (∃ f v, r = .returned (.tuple #[.float .f64 f, v])) ∧ w = w' := by
  have hfb := frombits
  go_enter Tryz.func251, Tryz.ntmps251
  go_wp2_with fail
  all_goals go_ret2
  all_goals exact ⟨⟨_, _, rfl⟩, rfl⟩
theorem and63 (s : Int) : 0 ≤ bits .and .i64 s 63 ∧ bits .and .i64 s 63 ≤ 63 := by
  have h : bits .and .i64 s 63 = IntKind.i64.wrap ((BitVec.ofInt 64 s &&& BitVec.ofInt 64 63).toNat : Int) := rfl
  have h1 : (BitVec.ofInt 64 s &&& BitVec.ofInt 64 63).toNat ≤ 63 := by
    rw [BitVec.toNat_and]
    exact Nat.and_le_right
  generalize (BitVec.ofInt 64 s &&& BitVec.ofInt 64 63).toNat = n at h h1
  rw [h]
  have : IntKind.i64.wrap (n : Int) = n := by
    rw [IntKind.wrap_i64]
    omega
  omega
set_option maxRecDepth 100000 in
set_option maxHeartbeats 4000000 in
theorem uscale226 (b : Nat) (x u v : Nat) (s : Int) (w : World) (hx : x < 18446744073709551616) (hu : u < 18446744073709551616) (hv : v < 18446744073709551616) (hb : Blk w b [.int .u64 u, .int .u64 v, .int .i64 s] 253) :
    Calls Tryz.prog 226 #[.int .u64 x, .pointer (some ⟨b, 0, none⟩)] w fun r w' => SomeU r ∧ Below w.heap.size w w' := by
  have M1 : Hid (∀ w, Calls Tryz.prog 252 #[.int .u64 x, .int .u64 u] w fun e w' => ∃ p q : Int, e = .returned (.tuple #[.int .u64 p, .int .u64 q]) ∧ w' = w) := Lib.hid (fun w => (Tryz.bits_Mul64 x u hx hu w).mono (by rintro e w' ⟨rfl, rfl⟩; exact ⟨_, _, rfl, rfl⟩))
  have M2 : Hid (∀ w, Calls Tryz.prog 252 #[.int .u64 x, .int .u64 v] w fun e w' => ∃ p q : Int, e = .returned (.tuple #[.int .u64 p, .int .u64 q]) ∧ w' = w) := Lib.hid (fun w => (Tryz.bits_Mul64 x v hx hv w).mono (by rintro e w' ⟨rfl, rfl⟩; exact ⟨_, _, rfl, rfl⟩))
  have BB : Hid (∀ (b : Bool) w, Calls Tryz.prog 216 #[.bool b] w fun e w' => e = .returned (.int .u64 (if b then 1 else 0)) ∧ w' = w) := Lib.hid (fun b w => (bool216 b w).mono (fun e w' h => ⟨h.1, h.2.symm⟩))
  have c0 := hb.cell 0 _ rfl
  have c1 := hb.cell 1 _ rfl
  have c2 := hb.cell 2 _ rfl
  obtain ⟨g0, g1⟩ := and63 s
  obtain ⟨g, hg⟩ : ∃ g, bits .and .i64 s 63 = g := ⟨_, rfl⟩
  rw [hg] at g0 g1
  have hbl := Lib.hid hb.lt
  clear hb
  go_enter Tryz.func226, Tryz.ntmps226
  go_wp2_with fail
  refine (M1.out _).mono ?_
  rintro e w' ⟨p, q, rfl, rfl⟩
  go_wp2_with fail
  · go_ret
    exact ⟨⟨_, rfl⟩, Below.refl _ _⟩
  · refine (M2.out _).mono ?_
    rintro e w' ⟨p2, q2, rfl, rfl⟩
    go_wp2_with (go_at_call 216; refine (BB.out _ _).mono ?_; rintro e w' ⟨rfl, rfl⟩)
    all_goals go_quiet ((go_at_call 216; exact Calls.quiet_of_same (BB.out _ _)))
    all_goals go_wp2_with fail
    all_goals go_ret
    all_goals exact ⟨⟨_, rfl⟩, below_drewN (Below.refl _ _) _⟩
end Go.Proofs.YtpjfmfaijcbopaaGreatDoor
