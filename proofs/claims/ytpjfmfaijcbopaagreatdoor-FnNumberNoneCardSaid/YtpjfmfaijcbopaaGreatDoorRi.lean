/- (*decimal).RoundedInteger gives some uint64. -/
import Derived.Test.YtpjfmfaijcbopaaGreatDoorSh
namespace Go.Proofs.YtpjfmfaijcbopaaGreatDoor
open Go.RowKit Go.Proofs

/-- Some bool. -/
def SomeBd (e : Ending) : Prop := ∃ v : Bool, e = .returned (.bool v)
set_option maxRecDepth 100000 in
set_option maxHeartbeats 4000000 in
theorem round236 (b : Nat) (n : Int) (d : Dec) (w : World) (h : DecAt w b d) (hle : d.nd ≤ 800) :
    Calls Tryz.prog 236 #[.pointer (some ⟨b, 0, none⟩), .int .i64 n] w fun e w' => SomeBd e ∧ w = w' := by
  have c8 := h.cnd
  have c3 := h.ctr
  obtain ⟨nd, hnd⟩ : ∃ nd, d.nd = nd := ⟨_, rfl⟩
  rw [hnd] at c8 hle
  by_cases hn : n < 0
  · clear h
    go_enter Tryz.func236, Tryz.ntmps236
    go_wp2_with fail
    go_ret
    exact ⟨⟨_, rfl⟩, rfl⟩
  by_cases hn2 : (nd : Int) ≤ n
  · clear h
    go_enter Tryz.func236, Tryz.ntmps236
    go_wp2_with fail
    go_ret
    exact ⟨⟨_, rfl⟩, rfl⟩
  obtain ⟨k, rfl⟩ : ∃ k : Nat, n = k := ⟨n.toNat, by omega⟩
  have hk : k < 800 := by omega
  have ck := h.cd k hk
  by_cases hk0 : k = 0
  · subst hk0
    clear h
    go_enter Tryz.func236, Tryz.ntmps236
    go_wp2_with fail
    all_goals go_ret
    all_goals exact ⟨⟨_, rfl⟩, rfl⟩
  · obtain ⟨j, rfl⟩ : ∃ j, k = j + 1 := ⟨k - 1, by omega⟩
    have cj := h.cd j (by omega)
    rw [show ((j + 1 : Nat) : Int) = (j : Int) + 1 by omega] at *
    clear h
    go_enter Tryz.func236, Tryz.ntmps236
    go_wp2_with fail
    all_goals go_ret
    all_goals exact ⟨⟨_, rfl⟩, rfl⟩
set_option maxRecDepth 100000 in
set_option maxHeartbeats 4000000 in
theorem rint250 (b : Nat) (d : Dec) (w : World) (h : DecAt w b d) (hle : d.nd ≤ 800) :
    Calls Tryz.prog 250 #[.pointer (some ⟨b, 0, none⟩)] w fun e w' => SomeU e ∧ w = w' := by
  have CR : Hid (∀ n : Int, Calls Tryz.prog 236 #[.pointer (some ⟨b, 0, none⟩), .int .i64 n] w fun e w' => SomeBd e ∧ w = w') := Lib.hid (fun n => round236 b n d w h hle)
  have c8 := h.cnd
  have c9 := h.cdp
  obtain ⟨nd, hnd⟩ : ∃ nd, d.nd = nd := ⟨_, rfl⟩
  rw [hnd] at c8 hle
  obtain ⟨dp, hdp⟩ : ∃ z, d.dp = z := ⟨_, rfl⟩
  rw [hdp] at c9
  have HCD : Hid (∀ i, i < 800 → w.cell? ⟨b, i, none⟩ = some (.int .u8 (d.b i))) := Lib.hid (fun i hi => h.cd i hi)
  clear h hdp hnd
  by_cases h20 : 20 < dp
  · go_enter Tryz.func250, Tryz.ntmps250
    go_wp2_with fail
    go_ret
    exact ⟨⟨_, rfl⟩, rfl⟩
  go_enter Tryz.func250, Tryz.ntmps250
  go_wp2_with fail
  go_loopw [3, 4] (fun i n wr => ∃ (k : Nat) (m : Int), k ≤ 800 ∧ i = .int .i64 k ∧ n = .int .u64 m ∧ w = wr) (fun i _ _ => 801 - (intOf i).toNat)
  case atStart => exact ⟨0, 0, by omega, rfl, rfl, rfl⟩
  case round =>
    obtain ⟨k, m, hk, rfl, rfl, rfl⟩ := hrel
    by_cases hin : (k : Int) < dp ∧ k < nd
    · obtain ⟨h1, h2⟩ := hin
      have h2i : (k : Int) < (nd : Int) := by omega
      have ck := HCD.out k (by omega)
      go_wp2_with fail
      go_roundw
      case rel => exact ⟨k + 1, _, by omega, by go_num, rfl, by trivial⟩
      case measure => simp [intOf]; omega
    · have hout : ¬ (k : Int) < dp ∨ ((k : Int) < dp ∧ ¬ (k : Int) < (nd : Int)) := by omega
      rcases hout with h1 | ⟨h1, h2⟩
      all_goals
        go_wp2_with fail
        go_loopw [3, 4] (fun i n wr => ∃ (k : Nat) (m : Int), k ≤ 1000 ∧ i = .int .i64 k ∧ n = .int .u64 m ∧ w = wr) (fun i _ _ => (dp - intOf i).toNat)
        case atStart => exact ⟨k, m, by omega, rfl, rfl, rfl⟩
        case round =>
          clear h1
          obtain ⟨k, m, hk, rfl, rfl, rfl⟩ := hrel
          by_cases hkd : (k : Int) < dp
          · go_wp2_with fail
            go_roundw
            case rel => exact ⟨k + 1, _, by omega, by go_num, rfl, by trivial⟩
            case measure => simp [intOf]; omega
          · go_wp2_with fail
            refine (CR.out _).mono ?_
            rintro e w' ⟨⟨v, rfl⟩, rfl⟩
            go_wp2_with fail
            all_goals go_ret
            all_goals exact ⟨⟨_, rfl⟩, rfl⟩
end Go.Proofs.YtpjfmfaijcbopaaGreatDoor
