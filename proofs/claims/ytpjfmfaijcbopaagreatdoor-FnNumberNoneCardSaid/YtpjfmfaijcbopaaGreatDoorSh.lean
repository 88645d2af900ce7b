/- (*decimal).Shift. -/
import Derived.Test.YtpjfmfaijcbopaaGreatDoorRw
namespace Go.Proofs.YtpjfmfaijcbopaaGreatDoor
open Go.RowKit Go.Proofs

set_option maxRecDepth 100000 in
set_option maxHeartbeats 4000000 in
theorem shiftL (b k bl : Nat) (d : Dec) (w : World) (h : DecAt w b d) (hok : d.ok) (hk1 : 1 ≤ k) (hk2 : k ≤ 60) (hT : CheatTab w bl) (hdp0 : -1000000000000 ≤ d.dp) (hdp1 : d.dp ≤ 1000000000000) :
    Calls Tryz.prog 180 #[.pointer (some ⟨b, 0, none⟩), .int .i64 k] w fun e w' => e = .returned (.tuple #[]) ∧ LsEnd d b k w w' := by
  have C := Lib.hid (left234 b k bl d w h hok hk1 hk2 hT hdp0 hdp1)
  have c8 := h.cnd
  have hnz : ((d.nd : Int) == 0) = false := by rw [beq_eq_false_iff_ne]; have := hok.pos; omega
  have hi : (0 : Int) < k := by omega
  have hi2 : ¬ (60 : Int) < k := by omega
  clear h hok hT
  go_enter Tryz.func180, Tryz.ntmps180
  go_wp2_with fail
  go_loopw [1] (fun x wr => x = .int .i64 k ∧ w = wr) (fun _ _ => 0)
  case atStart => exact ⟨rfl, rfl⟩
  case round =>
    obtain ⟨rfl, rfl⟩ := hrel
    go_wp2_with fail
    refine C.out.mono ?_
    rintro e w' ⟨rfl, hE⟩
    have HE := Lib.hid hE
    clear hE
    go_wp2_with fail
    go_end0
    exact ⟨rfl, HE.out⟩
set_option maxRecDepth 100000 in
set_option maxHeartbeats 4000000 in
theorem shiftR (b k : Nat) (d : Dec) (w : World) (h : DecAt w b d) (hok : d.ok) (hk1 : 1 ≤ k) (hk2 : k ≤ 60) (hdp0 : -1000000000000 ≤ d.dp) (hdp1 : d.dp ≤ 1000000000000) :
    Calls Tryz.prog 180 #[.pointer (some ⟨b, 0, none⟩), .int .i64 (-(k : Int))] w fun e w' => e = .returned (.tuple #[]) ∧ RsEnd d b k w w' := by
  have C := Lib.hid (right235 b k d w h hok hk1 hk2 hdp0 hdp1)
  have c8 := h.cnd
  have hnz : ((d.nd : Int) == 0) = false := by rw [beq_eq_false_iff_ne]; have := hok.pos; omega
  have hi : ¬ (0 : Int) < -(k : Int) := by omega
  have hi1 : -(k : Int) < 0 := by omega
  have hi2 : ¬ -(k : Int) < -60 := by omega
  clear h hok
  go_enter Tryz.func180, Tryz.ntmps180
  go_wp2_with fail
  go_loopw [1] (fun x wr => x = .int .i64 (-(k : Int)) ∧ w = wr) (fun _ _ => 0)
  case atStart => exact ⟨rfl, rfl⟩
  case round =>
    obtain ⟨rfl, rfl⟩ := hrel
    go_wp2_with fail
    refine C.out.mono ?_
    rintro e w' ⟨rfl, hE⟩
    have HE := Lib.hid hE
    clear hE
    go_wp2_with fail
    go_end0
    exact ⟨rfl, HE.out⟩
/-- What a great right shift leaves. -/
def RbEnd (d : Dec) (b : Nat) (w w' : World) : Prop := ∃ d' : Dec, DecAt w' b d' ∧ d'.ok ∧ d'.ng = d.ng ∧ -1000000000000 ≤ d'.dp ∧ d'.dp ≤ d.dp ∧ Below b w w'
set_option maxRecDepth 100000 in
set_option maxHeartbeats 4000000 in
theorem shiftRb (b k : Nat) (d : Dec) (w : World) (h : DecAt w b d) (hok : d.ok) (hk1 : 1 ≤ k) (hk2 : k ≤ 1000000) (hdp0 : -10000000000 ≤ d.dp) (hdp1 : d.dp ≤ 10000000000) :
    Calls Tryz.prog 180 #[.pointer (some ⟨b, 0, none⟩), .int .i64 (-(k : Int))] w fun e w' => e = .returned (.tuple #[]) ∧ RbEnd d b w w' := by
  have C : Hid (∀ (j : Nat) (d' : Dec) (w' : World), DecAt w' b d' → d'.ok → 1 ≤ j → j ≤ 60 → -1000000000000 ≤ d'.dp → d'.dp ≤ 1000000000000 → Calls Tryz.prog 235 #[.pointer (some ⟨b, 0, none⟩), .int .u64 j] w' fun e w'' => e = .returned (.tuple #[]) ∧ RsEnd d' b j w' w'') := Lib.hid (fun j d' w' h1 h2 h3 h4 h5 h6 => right235 b j d' w' h1 h2 h3 h4 h5 h6)
  have c8 := h.cnd
  have hnz : ((d.nd : Int) == 0) = false := by rw [beq_eq_false_iff_ne]; have := hok.pos; omega
  have hi : ¬ (0 : Int) < -(k : Int) := by omega
  have hi1 : -(k : Int) < 0 := by omega
  have H := Lib.hid h
  have HOK := Lib.hid hok
  clear h hok
  go_enter Tryz.func180, Tryz.ntmps180
  go_wp2_with fail
  go_loopw [1] (fun x wr => ∃ (j : Nat) (d' : Dec), x = .int .i64 (-(j : Int)) ∧ 1 ≤ j ∧ j ≤ k ∧ -10000000000 - 1000 * ((k : Int) - j) ≤ d'.dp ∧ d'.dp ≤ d.dp ∧ Hid (d'.ng = d.ng) ∧ Hid (DecAt wr b d') ∧ Hid d'.ok ∧ Hid (Below b w wr)) (fun x _ => (-(intOf x)).toNat)
  case atStart => exact ⟨k, d, rfl, hk1, Nat.le_refl _, by omega, by omega, Lib.hid rfl, Lib.hid H.out, Lib.hid HOK.out, Lib.hid (Below.refl _ _)⟩
  case round =>
    obtain ⟨j, d', rfl, hj1, hj2, hp0, hp1, HG, HD, HO, HB⟩ := hrel
    by_cases h60 : 60 < j
    · have hi3 : -(j : Int) < -60 := by omega
      have CC := Lib.hid (C.out 60 d' wr HD.out HO.out (by omega) (by omega) (by omega) (by omega))
      go_wp2_with fail
      refine CC.out.mono ?_
      rintro e w' ⟨rfl, d2, hD, hO, hG, ⟨r, hr1, hr2, hdp, -⟩, hB⟩
      have HD2 := Lib.hid hD
      have HO2 := Lib.hid hO
      have HG2 := Lib.hid (hG.trans HG.out)
      have HB2 := Lib.hid (HB.out.trans hB)
      clear hD hO hG hB CC
      go_wp2_with fail
      refine ⟨⟨j - 60, d2, congrArg (Value.int .i64) (by omega), by omega, by omega, by omega, by omega, Lib.hid HG2.out, Lib.hid HD2.out, Lib.hid HO2.out, Lib.hid HB2.out⟩, ?_⟩
      simp [intOf]
      omega
    · have hi3 : ¬ -(j : Int) < -60 := by omega
      have CC := Lib.hid (C.out j d' wr HD.out HO.out (by omega) (by omega) (by omega) (by omega))
      go_wp2_with fail
      refine CC.out.mono ?_
      rintro e w' ⟨rfl, d2, hD, hO, hG, ⟨r, hr1, hr2, hdp, -⟩, hB⟩
      have HE : Hid (RbEnd d b w w') := Lib.hid ⟨d2, hD, hO, hG.trans HG.out, by omega, by omega, HB.out.trans hB⟩
      clear hD hO hG hB CC
      go_wp2_with fail
      go_end0
      exact ⟨rfl, HE.out⟩
end Go.Proofs.YtpjfmfaijcbopaaGreatDoor
