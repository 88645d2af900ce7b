/- (*decimal).floatBits gives some bits. -/
import Derived.Test.YtpjfmfaijcbopaaGreatDoorSc
import Derived.WalkMore
namespace Go.Proofs.YtpjfmfaijcbopaaGreatDoor
open Go.RowKit Go.Proofs

/-- Some bits and some bool. -/
def SomeUB (e : Ending) : Prop := ∃ (v : Int) (t : Bool), e = .returned (.tuple #[.int .u64 v, .bool t])
-- The end behind label 0: W's cells in i0, i1, i2, c2 (at every number of draws), HB.
set_option maxRecDepth 100000 in
set_option maxHeartbeats 16000000 in
theorem bits215a (b b11 b10 bl : Nat) (d : Dec) (w : World) (h : DecAt w b d) (hok : d.nd = 0 ∨ (d.ok ∧ (310 < d.dp ∨ d.dp < -330))) (hG : Glob w b b11 b10 bl) :
    Calls Tryz.prog 215 #[.pointer (some ⟨b, 0, none⟩), .pointer (some ⟨7, 0, none⟩)] w fun e w' => SomeUB e ∧ Below b w w' := by
  have c8 := h.cnd
  have c9 := h.cdp
  have c20 := h.cng
  obtain ⟨ng, hng⟩ : ∃ g, d.ng = g := ⟨_, rfl⟩
  rw [hng] at c20
  have i0 : ∀ n, (w.drewN n).cell? ⟨7, 0, none⟩ = some (.int .u64 52) := fun _ => hG.i0
  have i1 : ∀ n, (w.drewN n).cell? ⟨7, 1, none⟩ = some (.int .u64 11) := fun _ => hG.i1
  have i2 : ∀ n, (w.drewN n).cell? ⟨7, 2, none⟩ = some (.int .i64 (-1023)) := fun _ => hG.i2
  have c2 : ∀ n, (w.drewN n).cell? ⟨b, 802, none⟩ = some (.bool ng) := fun _ => c20
  have k0 := hG.i0
  have k1 := hG.i1
  have k2 := hG.i2
  have HB : ∀ n, Below b w (w.drewN n) := fun n => below_drewN (Below.refl _ _) n
  rcases hok with h0 | ⟨hok, hdp⟩
  · rw [h0] at c8
    go_enter Tryz.func215, Tryz.ntmps215
    go_wp2_with fail
    refine wp_scope_hide (fun J hJ => ?_)
    have HJ := Lib.hid hJ
    clear hJ
    go_wp2_with fail
    go_step3
    change J 0 _ _
    rw [HJ.out]
    refine ⟨_, rfl, ?_⟩
    go_wp2_with fail
    go_quiet (fail)
    cases ng
    · go_wp2_with fail
      rw [Exit.noGoto_ret]
      go_ret2
      first | exact ⟨⟨_, _, rfl⟩, HB _⟩ | exact ⟨⟨_, _, rfl⟩, below_drewN (HB _) _⟩
    · go_wp2_with fail
      go_quiet (fail)
      go_wp2_with fail
      rw [Exit.noGoto_ret]
      go_ret2
      first | exact ⟨⟨_, _, rfl⟩, HB _⟩ | exact ⟨⟨_, _, rfl⟩, below_drewN (HB _) _⟩
  · have hndz : ((d.nd : Int) == 0) = false := by rw [beq_eq_false_iff_ne]; have := hok.pos; omega
    rcases hdp with hhi | hlo
    · go_enter Tryz.func215, Tryz.ntmps215
      go_wp2_with fail
      refine wp_scope_hide (fun J hJ => ?_)
      have HJ := Lib.hid hJ
      clear hJ
      go_wp2_with fail
      go_step3
      change J 1 _ _
      rw [HJ.out]
      refine ⟨_, rfl, ?_⟩
      go_wp2_with fail
      go_quiet (fail)
      go_wp2_with fail
      go_step3
      go_wp2_with fail
      go_quiet (fail)
      cases ng
      · go_wp2_with fail
        rw [Exit.noGoto_ret]
        go_ret2
        first | exact ⟨⟨_, _, rfl⟩, HB _⟩ | exact ⟨⟨_, _, rfl⟩, below_drewN (HB _) _⟩
      · go_wp2_with fail
        go_quiet (fail)
        go_wp2_with fail
        rw [Exit.noGoto_ret]
        go_ret2
        first | exact ⟨⟨_, _, rfl⟩, HB _⟩ | exact ⟨⟨_, _, rfl⟩, below_drewN (HB _) _⟩
    · have hhi : ¬ 310 < d.dp := by omega
      go_enter Tryz.func215, Tryz.ntmps215
      go_wp2_with fail
      refine wp_scope_hide (fun J hJ => ?_)
      have HJ := Lib.hid hJ
      clear hJ
      go_wp2_with fail
      go_step3
      change J 0 _ _
      rw [HJ.out]
      refine ⟨_, rfl, ?_⟩
      go_wp2_with fail
      go_quiet (fail)
      cases ng
      · go_wp2_with fail
        rw [Exit.noGoto_ret]
        go_ret2
        first | exact ⟨⟨_, _, rfl⟩, HB _⟩ | exact ⟨⟨_, _, rfl⟩, below_drewN (HB _) _⟩
      · go_wp2_with fail
        go_quiet (fail)
        go_wp2_with fail
        rw [Exit.noGoto_ret]
        go_ret2
        first | exact ⟨⟨_, _, rfl⟩, HB _⟩ | exact ⟨⟨_, _, rfl⟩, below_drewN (HB _) _⟩
end Go.Proofs.YtpjfmfaijcbopaaGreatDoor
