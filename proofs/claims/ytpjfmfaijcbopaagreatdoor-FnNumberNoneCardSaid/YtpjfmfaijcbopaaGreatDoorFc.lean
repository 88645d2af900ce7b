/- (*decimal).floatBits: the way through the loops. -/
import Derived.Test.YtpjfmfaijcbopaaGreatDoorFb
namespace Go.Proofs.YtpjfmfaijcbopaaGreatDoor
open Go.RowKit Go.Proofs

theorem Glob.below {w w' : World} {B b11 b10 bl : Nat} (h : Glob w B b11 b10 bl) (hB : Below B w w') : Glob w' B b11 b10 bl := by
  obtain ⟨l12, l11, l10, ll⟩ := h.lt
  have c : ∀ p : Addr, p.block < B → w'.cell? p = w.cell? p := fun p hp => hB.cell hp
  obtain ⟨o11, s11, p11⟩ := h.t11
  obtain ⟨o10, s10, p10⟩ := h.t10
  refine ⟨h.pow.below hB l12, h.lt, ?_, ?_, ?_, ?_, ⟨o11, ?_, fun k hk => ?_⟩, ⟨o10, ?_, fun k hk => ?_⟩⟩
  · rw [c _ (show (4 : Nat) < B by omega)]; exact h.opt
  · rw [c _ (show (7 : Nat) < B by omega)]; exact h.i0
  · rw [c _ (show (7 : Nat) < B by omega)]; exact h.i1
  · rw [c _ (show (7 : Nat) < B by omega)]; exact h.i2
  · rw [c _ (show (11 : Nat) < B by omega)]; exact s11
  · rw [c _ (show b11 < B from l11)]; exact p11 k hk
  · rw [c _ (show (10 : Nat) < B by omega)]; exact s10
  · rw [c _ (show b10 < B from l10)]; exact p10 k hk
/-- The shift that a row of powtab (or what lies beyond) asks for. -/
def powN (k : Nat) : Nat := if k < 9 then [1, 3, 6, 9, 13, 16, 19, 23, 26].getD k 0 else 27
theorem powN_ok (k : Nat) : 1 ≤ powN k ∧ powN k ≤ 27 ∧ (1 ≤ k → 3 ≤ powN k) := by
  unfold powN
  split
  · rename_i h
    have : ∀ k < 9, 1 ≤ [1, 3, 6, 9, 13, 16, 19, 23, 26].getD k 0 ∧ [1, 3, 6, 9, 13, 16, 19, 23, 26].getD k 0 ≤ 27 ∧ (1 ≤ k → 3 ≤ [1, 3, 6, 9, 13, 16, 19, 23, 26].getD k 0) := by decide
    exact this k h
  · omega
/-- What is left to do in the first loop. -/
def muA (d : Dec) : Nat := 2 * d.dp.toNat + (if 8 ≤ d.b 0 - 48 then 1 else 0)
theorem muA_step {d d' : Dec} {n r : Nat} (hok : d.ok) (hdp : 1 ≤ d.dp) (hn : 3 ≤ n) (hr : 1 ≤ r) (hd : d'.dp = d.dp - ((r : Int) - 1)) (h1 : r = 1 → 2 ^ n ≤ d.b 0 - 48 ∧ d'.b 0 - 48 = (d.b 0 - 48) / 2 ^ n) : muA d' < muA d := by
  have hb := hok.dig 0 hok.pos
  unfold muA
  rcases Nat.lt_or_ge 1 r with h | h
  · have : d'.dp.toNat + 1 ≤ d.dp.toNat := by omega
    split <;> split <;> omega
  · obtain ⟨h2, h3⟩ := h1 (by omega)
    have h4 : 2 ^ 3 ≤ 2 ^ n := Nat.pow_le_pow_right (by omega) hn
    have h5 : (2 : Nat) ^ 3 = 8 := by decide
    have h6 : (d.b 0 - 48) / 2 ^ n ≤ (d.b 0 - 48) / 8 := by rw [← h5]; exact Nat.div_le_div_left h4 (by omega)
    rw [if_pos (show 8 ≤ d.b 0 - 48 by omega), if_neg (by omega)]
    have : d'.dp = d.dp := by omega
    rw [this]
    omega
/-- What is left to do in the second loop. -/
def muB (d : Dec) : Nat := if 0 < d.dp then 0 else 1 + 20 * (-d.dp).toNat + (10 - (d.b 0 - 48))
theorem muB_step {d d' : Dec} {n e : Nat} (hok : d.ok) (hok' : d'.ok) (hdp : d.dp ≤ 0) (hn : 1 ≤ n) (hd : d'.dp = d.dp + e) (h0 : e = 0 → 2 ^ n * (d.b 0 - 48) ≤ d'.b 0 - 48) : muB d' < muB d := by
  have hb := hok.dig 0 hok.pos
  have hb' := hok'.dig 0 hok'.pos
  have hl := hok.lead
  have hl' := hok'.lead
  unfold muB
  rw [if_neg (show ¬ 0 < d.dp by omega)]
  rcases Nat.eq_zero_or_pos e with h | h
  · have h1 := h0 h
    have h2 : 2 ^ 1 ≤ 2 ^ n := Nat.pow_le_pow_right (by omega) hn
    have h3 : 2 * (d.b 0 - 48) ≤ 2 ^ n * (d.b 0 - 48) := Nat.mul_le_mul_right _ h2
    have : d'.dp = d.dp := by omega
    rw [this]
    split <;> omega
  · split
    · omega
    · have : (-d'.dp).toNat + 1 ≤ (-d.dp).toNat := by omega
      omega
theorem muB_le {d : Dec} (h : -1000 ≤ d.dp) : muB d ≤ 20011 := by
  unfold muB
  split <;> omega
end Go.Proofs.YtpjfmfaijcbopaaGreatDoor
