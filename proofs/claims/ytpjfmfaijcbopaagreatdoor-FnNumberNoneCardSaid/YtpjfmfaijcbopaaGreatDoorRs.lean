/- The arithmetic of internal/strconv.rightShift. -/
import Derived.Test.YtpjfmfaijcbopaaGreatDoorLw
namespace Go.Proofs.YtpjfmfaijcbopaaGreatDoor
open Go.RowKit Go.Proofs

/-- How many times 2 divides n, at most f times. -/
def tz : Nat → Nat → Nat
  | 0, _ => 0
  | f + 1, n => if n % 2 = 0 then 1 + tz f (n / 2) else 0
theorem tz_le : ∀ f n, tz f n ≤ f
  | 0, _ => Nat.le_refl _
  | f + 1, n => by
    unfold tz
    have := tz_le f (n / 2)
    split <;> omega
theorem tz_dvd : ∀ f n, 2 ^ tz f n ∣ n
  | 0, n => by simp [tz]
  | f + 1, n => by
    unfold tz
    split
    · rename_i h
      obtain ⟨c, hc⟩ := tz_dvd f (n / 2)
      refine ⟨c, ?_⟩
      rw [Nat.pow_add, Nat.pow_one, Nat.mul_assoc, ← hc]
      omega
    · simp
theorem le_tz : ∀ f n j, 2 ^ j ∣ n → j ≤ f → j ≤ tz f n
  | 0, _, j, _, h => by omega
  | f + 1, n, 0, _, _ => Nat.zero_le _
  | f + 1, n, j + 1, ⟨c, hc⟩, h => by
    have h2 : n = 2 * (2 ^ j * c) := by rw [hc, Nat.pow_succ, Nat.mul_comm (2 ^ j) 2, Nat.mul_assoc]
    have ih := le_tz f (n / 2) j ⟨c, by omega⟩ (by omega)
    unfold tz
    rw [if_pos (by omega)]
    omega
/-- What is left to do in the last loop. -/
def rsMu (k n : Nat) : Nat := if n = 0 then 0 else k + 1 - tz k n
theorem rsMu_step (k n : Nat) (h0 : 0 < n) : rsMu k (n % 2 ^ k * 10) < rsMu k n := by
  unfold rsMu
  rw [if_neg (show ¬ n = 0 by omega)]
  have hle := tz_le k n
  split
  · omega
  · rename_i hne
    have hd := tz_dvd k n
    obtain ⟨j, hj⟩ : ∃ j, tz k n = j := ⟨_, rfl⟩
    rw [hj] at hd hle ⊢
    have hd2 : 2 ^ j ∣ n % 2 ^ k := (Nat.dvd_mod_iff (Nat.pow_dvd_pow 2 hle)).2 hd
    rcases Nat.lt_or_ge j k with hjk | hjk
    · have hd3 : 2 ^ (j + 1) ∣ n % 2 ^ k * 10 := by
        obtain ⟨c, hc⟩ := hd2
        refine ⟨c * 5, ?_⟩
        rw [hc, Nat.pow_succ]
        rw [Nat.mul_assoc (2 ^ j) 2, Nat.mul_assoc (2 ^ j) c]
        congr 1
        omega
      have := le_tz k _ _ hd3 (by omega)
      omega
    · obtain rfl : j = k := by omega
      have h3 : n % 2 ^ j = 0 := by
        have := Nat.mod_mod n (2 ^ j)
        rw [← this]
        exact Nat.mod_eq_zero_of_dvd hd2
      rw [h3] at hne
      omega
/-- The state of the loops that write. -/
structure RsI (d dd : Dec) (dp : Int) (w r a0 : Nat) : Prop where
  nd : dd.nd = d.nd
  dp : dd.dp = dp
  ng : dd.ng = d.ng
  old : ∀ j, r ≤ j → j < 800 → dd.b j = d.b j
  new : ∀ j, j < w → 48 ≤ dd.b j ∧ dd.b j ≤ 57
  fst : 0 < w → dd.b 0 = 48 + a0
theorem RsI.put {d dd : Dec} {dp : Int} {w r a0 v : Nat} (h : RsI d dd dp w r a0) (hl : dd.ds.length = 800) (hw : w < 800) (hv : v ≤ 9) (h0 : w = 0 → v = a0) (r' : Nat) (hr : r ≤ r') (hwr : w < r') :
    RsI d { dd with ds := dd.ds.set w (48 + v) } dp (w + 1) r' a0 := by
  refine ⟨h.nd, h.dp, h.ng, fun j h1 h2 => ?_, fun j h1 => ?_, fun _ => ?_⟩
  · rw [Dec.b_set dd hl _ _ _ hw, if_neg (by omega)]
    exact h.old j (by omega) h2
  · rw [Dec.b_set dd hl _ _ _ hw]
    by_cases hj : w = j
    · rw [if_pos hj]; omega
    · rw [if_neg hj]; exact h.new j (by omega)
  · rw [Dec.b_set dd hl _ _ _ hw]
    by_cases hj : w = 0
    · rw [if_pos hj, h0 hj]
    · rw [if_neg hj]; exact h.fst (by omega)
theorem RsI.tr {d dd : Dec} {dp : Int} {w r a0 : Nat} (h : RsI d dd dp w r a0) (t : Bool) : RsI d { dd with tr := t } dp w r a0 := ⟨h.nd, h.dp, h.ng, h.old, h.new, h.fst⟩
theorem RsI.gt {d dd : Dec} {dp : Int} {w r a0 : Nat} (h : RsI d dd dp w r a0) (r' : Nat) (hr : r ≤ r') : RsI d dd dp w r' a0 := ⟨h.nd, h.dp, h.ng, fun j h1 => h.old j (by omega), h.new, h.fst⟩
/-- The mask keeps what is below 2^k. -/
theorem mask_mod (k m : Nat) (hk : k ≤ 60) (hm : m < 18446744073709551616) : bits .and .u64 (m : Int) ((2 ^ k - 1 : Nat) : Int) = ((m % 2 ^ k : Nat) : Int) := by
  have h1 : 2 ^ k ≤ 2 ^ 60 := Nat.pow_le_pow_right (by omega) hk
  have h2 : (2 : Nat) ^ 60 = 1152921504606846976 := by decide
  rw [bits_and_u64_nat m (2 ^ k - 1) hm (by omega), Nat.and_two_pow_sub_one_eq_mod]
end Go.Proofs.YtpjfmfaijcbopaaGreatDoor
