/- Small functions that internal/strconv.ParseFloat calls. -/
import Derived.Test.YtpjfmfaijcbopaaGreatDoorPj
namespace Go.Proofs.YtpjfmfaijcbopaaGreatDoor
open Go.RowKit Go.Proofs

theorem frombits (n : Int) (w : World) : (callFunc 217 #[.int .u64 n]).run Tryz.prog w = .ok (.value (.float .f64 n.toNat)) w := by
  rw [run_callFunc_extern (e := Extern.MathFloatBits.float64frombits) Tryz.func217 (by kernel_rfl) (by kernel_rfl) (by kernel_rfl) (by kernel_rfl)]
  rfl
/-- Some float64. -/
def SomeF (e : Ending) : Prop := ∃ f, e = .returned (.float .f64 f)
set_option maxRecDepth 100000 in
set_option maxHeartbeats 2000000 in
theorem inf247 (s : Int) (w : World) : Calls Tryz.prog 247 #[.int .i64 s] w fun e w' => SomeF e ∧ w = w' := by
  have hfb := frombits
  go_enter Tryz.func247, Tryz.ntmps247
  go_wp2_with fail
  all_goals go_ret
  all_goals exact ⟨⟨_, rfl⟩, rfl⟩
set_option maxRecDepth 100000 in
set_option maxHeartbeats 2000000 in
theorem nan248 (w : World) : Calls Tryz.prog 248 #[] w fun e w' => SomeF e ∧ w = w' := by
  have hfb := frombits
  go_enter Tryz.func248, Tryz.ntmps248
  go_wp2_with fail
  all_goals go_ret
  all_goals exact ⟨⟨_, rfl⟩, rfl⟩
theorem bool183 (b : Bool) (w : World) : Calls Tryz.prog 183 #[.bool b] w fun e w' => e = .returned (.int .i64 (if b then 1 else 0)) ∧ w = w' := by
  cases b
  all_goals
    go_enter Tryz.func183, Tryz.ntmps183
    go_wp2_with fail
    go_ret
    exact ⟨rfl, rfl⟩
theorem bool216 (b : Bool) (w : World) : Calls Tryz.prog 216 #[.bool b] w fun e w' => e = .returned (.int .u64 (if b then 1 else 0)) ∧ w = w' := by
  cases b
  all_goals
    go_enter Tryz.func216, Tryz.ntmps216
    go_wp2_with fail
    go_ret
    exact ⟨rfl, rfl⟩

set_option maxHeartbeats 4000000 in
theorem common246 (s p : ByteArray) (w : World) (hs : s.size ≤ 4611686018427387904) (hp : p.size ≤ 1000) (hn : ∀ j, j < p.size → by' p j ≠ 46) :
    Calls Tryz.prog 246 #[.string s, .string p] w fun e w' => (∃ n : Nat, e = .returned (.int .i64 n) ∧ n ≤ s.size ∧ n ≤ p.size ∧ ∀ j, j < n → by' s j ≠ 46) ∧ w = w' := by
  have HN := Lib.hid hn
  have HI : Hid (∀ (t : ByteArray) (k : Nat) (hk : k < t.size) (w : World), (Instr.index 9 (.string t) (.int .i64 k)).run Tryz.prog w = .ok (.int .u8 (by' t k)) w) := Lib.hid idx_run
  have hm : min (p.size : Int) (s.size : Int) = ((min p.size s.size : Nat) : Int) := by omega
  obtain ⟨m, hmm⟩ : ∃ m, min p.size s.size = m := ⟨_, rfl⟩
  have hm1 : m ≤ p.size := by omega
  have hm2 : m ≤ s.size := by omega
  rw [hmm] at hm
  clear hn hmm
  go_enter Tryz.func246, Tryz.ntmps246
  go_wp2_with fail
  go_loop [6] (fun i => ∃ k : Nat, k ≤ m ∧ i = .int .i64 k ∧ Hid (∀ j, j < k → by' s j ≠ 46)) (fun i => m - (intOf i).toNat)
  case atStart => exact ⟨0, by omega, rfl, Lib.hid (fun j hj => by omega)⟩
  case round =>
    obtain ⟨k, hk, rfl, HK⟩ := hrel
    by_cases hlt : k < m
    · have hi : (k : Int) < (m : Int) := by omega
      have h1 := fun w => HI.out s k (by omega) w
      have h2 := fun w => HI.out p k (by omega) w
      have hne := Lib.hid (HN.out k (by omega))
      have hc1 : by' s k < 256 := by unfold by'; exact UInt8.toNat_lt _
      obtain ⟨c, hc⟩ : ∃ c, by' s k = c := ⟨_, rfl⟩
      obtain ⟨d, hd⟩ : ∃ d, by' p k = d := ⟨_, rfl⟩
      have HC := Lib.hid hc
      rw [hc] at h1 hc1
      rw [hd] at h2 hne
      clear hc hd
      have HF : Hid (∀ j, j < k → by' s j ≠ 46) := HK
      by_cases hup : 65 ≤ (c : Int) ∧ (c : Int) ≤ 90
      · obtain ⟨hu1, hu2⟩ := hup
        go_wp2_with fail
        all_goals first
          | (go_ret
             exact ⟨⟨k, rfl, by omega, by omega, HF.out⟩, rfl⟩)
          | (go_round
             case rel => exact ⟨k + 1, by omega, by go_num, Lib.hid (fun j hj => by
               rcases Nat.lt_or_ge j k with h | h
               · exact HF.out j h
               · obtain rfl : j = k := by omega
                 rw [HC.out]; omega)⟩
             case measure => simp [intOf]; omega)
      · go_wp2_with fail
        all_goals first
          | (go_ret
             exact ⟨⟨k, rfl, by omega, by omega, HF.out⟩, rfl⟩)
          | (rename_i heq
             go_round
             case rel => exact ⟨k + 1, by omega, by go_num, Lib.hid (fun j hj => by
               rcases Nat.lt_or_ge j k with h | h
               · exact HF.out j h
               · obtain rfl : j = k := by omega
                 rw [HC.out]
                 have := hne.out
                 simp at heq
                 omega)⟩
             case measure => simp [intOf]; omega)
    · obtain rfl : k = m := by omega
      go_wp2_with fail
      go_ret
      exact ⟨⟨k, rfl, hm2, hm1, HK.out⟩, rfl⟩
end Go.Proofs.YtpjfmfaijcbopaaGreatDoor
