/- internal/strconv.leftShift. -/
import Derived.Test.YtpjfmfaijcbopaaGreatDoorDv
namespace Go.Proofs.YtpjfmfaijcbopaaGreatDoor
open Go.RowKit Go.Proofs

/-- The table of the left shift lies in its cells. -/
structure CheatTab (w : World) (bl : Nat) : Prop where
  t13 : ∃ o, w.cell? ⟨13, 0, none⟩ = some (.slice (some ⟨bl, o, none⟩) 61 61) ∧
    ∀ k, 1 ≤ k → k ≤ 60 → ∃ (delta : Nat) (c : ByteArray), w.cell? ⟨bl, o + k * 2, none⟩ = some (.int .i64 delta) ∧ w.cell? ⟨bl, o + k * 2 + 1, none⟩ = some (.string c) ∧ Cheat k delta (bytesN c) ∧ c.size ≤ 1000
theorem CheatTab.below {w w' : World} {B bl : Nat} (h : CheatTab w bl) (hB : Below B w w') (h13 : 13 < B) (hbl : bl < B) : CheatTab w' bl := by
  obtain ⟨o, s13, hrow⟩ := h.t13
  refine ⟨o, by rw [hB.cell (show (⟨13, 0, none⟩ : Addr).block < _ from h13)]; exact s13, fun k h1 h2 => ?_⟩
  obtain ⟨dl, c, h3, h4, h5⟩ := hrow k h1 h2
  exact ⟨dl, c, by rw [hB.cell (show (⟨bl, o + k * 2, none⟩ : Addr).block < _ from hbl)]; exact h3, by rw [hB.cell (show (⟨bl, o + k * 2 + 1, none⟩ : Addr).block < _ from hbl)]; exact h4, h5⟩
/-- A decimal that is no nought: digits, the first of which is none. -/
structure Dec.ok (d : Dec) : Prop where
  le : d.nd ≤ 800
  pos : 0 < d.nd
  dig : ∀ i, i < d.nd → 48 ≤ d.b i ∧ d.b i ≤ 57
  lead : d.b 0 ≠ 48
theorem Dec.take_succ {d : Dec} (hl : d.ds.length = 800) (q : Nat) (hq : q < 800) : d.ds.take (q + 1) = d.ds.take q ++ [d.b q] := by
  rw [List.take_succ_eq_append_getElem (by omega)]
  unfold Dec.b
  rw [List.getD, List.getElem?_eq_getElem (by omega)]
  rfl
theorem Dec.ok.digs {d : Dec} (h : d.ok) (hl : d.ds.length = 800) : Digs (d.ds.take d.nd) := by
  intro x hx
  obtain ⟨i, hi, rfl⟩ := List.getElem_of_mem hx
  have h1 : i < d.nd := by simp at hi; omega
  have := h.dig i h1
  unfold Dec.b at this
  rw [List.getElem_take]
  have hle := h.le
  rwa [List.getD, List.getElem?_eq_getElem (by omega)] at this
theorem Dec.ok.leadv {d : Dec} (h : d.ok) (hl : d.ds.length = 800) : (d.b 0 - 48) * 10 ^ (d.nd - 1) ≤ dval (d.ds.take d.nd) := by
  have hle := h.le
  have hp := h.pos
  obtain ⟨x, xs, hx⟩ : ∃ x xs, d.ds = x :: xs := by
    cases hd : d.ds with
    | nil => rw [hd] at hl; cases hl
    | cons x xs => exact ⟨x, xs, rfl⟩
  have hb : d.b 0 = x := by unfold Dec.b; rw [hx]; rfl
  obtain ⟨n, hn⟩ : ∃ n, d.nd = n + 1 := ⟨d.nd - 1, by omega⟩
  have hlx : xs.length = 799 := by rw [hx] at hl; simpa using hl
  rw [hb, hn, hx]
  show _ ≤ dval (x :: xs.take n)
  unfold dval
  rw [List.length_take, hlx, Nat.min_eq_left (by omega), Nat.add_sub_cancel]
  omega

/-- One digit of the left shift. -/
theorem ls_step {X nd q n P v p : Nat} (hq : q + 1 ≤ nd) (hinv : n + (P * 10 + v) * p = X / 10 ^ (nd - (q + 1))) :
    (n + v * p) / 10 + P * p = X / 10 ^ (nd - q) ∧ (n + v * p) % 10 = X / 10 ^ (nd - 1 - q) % 10 := by
  have e : nd - q = (nd - (q + 1)) + 1 := by omega
  have e2 : nd - 1 - q = nd - (q + 1) := by omega
  rw [e2, e, Nat.pow_succ, ← Nat.div_div_eq_div_mul, ← hinv]
  have h3 : n + (P * 10 + v) * p = (n + v * p) + 10 * (P * p) := by
    rw [Nat.add_mul, Nat.mul_right_comm]; omega
  rw [h3, Nat.add_mul_div_left _ _ (by omega), Nat.add_mul_mod_self_left]
  exact ⟨rfl, rfl⟩
/-- The state of the loops: the digits from q + e on are those of X. -/
structure LsI (d dd : Dec) (X e q N : Nat) : Prop where
  nd : dd.nd = d.nd
  dp : dd.dp = d.dp
  ng : dd.ng = d.ng
  old : ∀ i, i < q → dd.b i = d.b i
  new : ∀ j, q + e ≤ j → j < N → j < 800 → dd.b j = 48 + X / 10 ^ (N - 1 - j) % 10
theorem Dec.b_set (d : Dec) (hl : d.ds.length = 800) (i v j : Nat) (hi : i < 800) : ({ d with ds := d.ds.set i v } : Dec).b j = if i = j then v else d.b j := by
  unfold Dec.b
  simp only [List.getD]
  rw [List.getElem?_set]
  by_cases h : i = j
  · subst h; simp [hl, hi]
  · simp [h]
theorem LsI.put {d dd : Dec} {X e q N v : Nat} (h : LsI d dd X e (q + 1) N) (hl : dd.ds.length = 800) (hw : q + e < 800) (hv : v = 48 + X / 10 ^ (N - 1 - (q + e)) % 10) : LsI d { dd with ds := dd.ds.set (q + e) v } X e q N := by
  refine ⟨h.nd, h.dp, h.ng, fun i hi => ?_, fun j h1 h2 h3 => ?_⟩
  · rw [Dec.b_set dd hl _ _ _ hw, if_neg (by omega)]
    exact h.old i (by omega)
  · rw [Dec.b_set dd hl _ _ _ hw]
    by_cases hj : q + e = j
    · rw [if_pos hj, hv, hj]
    · rw [if_neg hj]
      exact h.new j (by omega) h2 h3
theorem LsI.skip {d dd : Dec} {X e q N : Nat} (t : Bool) (h : LsI d dd X e (q + 1) N) (hw : 800 ≤ q + e) : LsI d { dd with tr := t } X e q N :=
  ⟨h.nd, h.dp, h.ng, fun i hi => h.old i (by omega), fun j h1 _ h3 => by omega⟩
theorem LsI.skip0 {d dd : Dec} {X e q N : Nat} (h : LsI d dd X e (q + 1) N) (hw : 800 ≤ q + e) : LsI d dd X e q N :=
  ⟨h.nd, h.dp, h.ng, fun i hi => h.old i (by omega), fun j h1 _ h3 => by omega⟩
/-- The state of the second loop. -/
structure LsJ (d dd : Dec) (X w N : Nat) : Prop where
  nd : dd.nd = d.nd
  dp : dd.dp = d.dp
  ng : dd.ng = d.ng
  new : ∀ j, w ≤ j → j < N → j < 800 → dd.b j = 48 + X / 10 ^ (N - 1 - j) % 10
theorem LsI.toJ {d dd : Dec} {X e N : Nat} (h : LsI d dd X e 0 N) : LsJ d dd X e N := ⟨h.nd, h.dp, h.ng, fun j h1 => h.new j (by omega)⟩
theorem LsJ.put {d dd : Dec} {X w N v : Nat} (h : LsJ d dd X (w + 1) N) (hl : dd.ds.length = 800) (hw : w < 800) (hv : v = 48 + X / 10 ^ (N - 1 - w) % 10) : LsJ d { dd with ds := dd.ds.set w v } X w N := by
  refine ⟨h.nd, h.dp, h.ng, fun j h1 h2 h3 => ?_⟩
  rw [Dec.b_set dd hl _ _ _ hw]
  by_cases hj : w = j
  · rw [if_pos hj, hv, hj]
  · rw [if_neg hj]
    exact h.new j (by omega) h2 h3
/-- The second loop ends where all digits are written. -/
theorem ls_end {X N q : Nat} (lo : 10 ^ (N - 1) ≤ X) (hq : q ≤ N) (h0 : X / 10 ^ (N - q) = 0) : q = 0 := by
  rcases Nat.eq_zero_or_pos q with h | h
  · exact h
  · have h1 : 10 ^ (N - q) ≤ X := Nat.le_trans (Nat.pow_le_pow_right (by omega) (by omega)) lo
    have h2 := Nat.div_pos h1 (Nat.pow_pos (by omega))
    omega
theorem ls_pos {X N q m : Nat} (hi : X < 10 ^ N) (hm : m = X / 10 ^ (N - q)) (h0 : 0 < m) : 0 < q := by
  rcases Nat.eq_zero_or_pos q with h | h
  · rw [h, Nat.sub_zero, Nat.div_eq_of_lt hi] at hm
    omega
  · exact h
/-- What all of it leaves. -/
theorem ls_final {d dd : Dec} {X e k m M : Nat} (h : LsJ d dd X 0 (d.nd + e)) (hok : d.ok) (hl : d.ds.length = 800) (hX : dval (d.ds.take d.nd) * 2 ^ k = X) (lo : 10 ^ (d.nd + e - 1) ≤ X) (hi : X < 10 ^ (d.nd + e))
    (hM : M ≤ d.nd + e) (hM8 : M ≤ 800) (hM0 : 0 < M) (hm : m ≤ M) (hk : ∀ j, j < M → dd.b j ≠ 48 → j < m) :
    (({ dd with nd := M, dp := d.dp + e } : Dec).cut m).ok ∧ (({ dd with nd := M, dp := d.dp + e } : Dec).cut m).ng = d.ng ∧ (({ dd with nd := M, dp := d.dp + e } : Dec).cut m).dp = d.dp + e ∧
      (e = 0 → 2 ^ k * (d.b 0 - 48) ≤ (({ dd with nd := M, dp := d.dp + e } : Dec).cut m).b 0 - 48) := by
  have hb : ∀ j, (({ dd with nd := M, dp := d.dp + e } : Dec).cut m).b j = dd.b j := fun _ => rfl
  have h0 : dd.b 0 = 48 + X / 10 ^ (d.nd + e - 1) := by
    have := h.new 0 (Nat.le_refl _) (by omega) (by omega)
    rw [this, Nat.sub_zero, Nat.mod_eq_of_lt]
    apply Nat.div_lt_of_lt_mul
    rw [← Nat.pow_succ]
    have : (d.nd + e - 1).succ = d.nd + e := by omega
    rw [this]; exact hi
  have h1 : 0 < X / 10 ^ (d.nd + e - 1) := Nat.div_pos lo (Nat.pow_pos (by omega))
  have hmpos : 0 < m := hk 0 hM0 (by omega)
  refine ⟨⟨?_, hmpos, fun i hi => ?_, ?_⟩, h.ng, ?_, fun he => ?_⟩
  · show m ≤ 800; omega
  · rw [hb, h.new i (Nat.zero_le _) (by have : i < m := hi; omega) (by have : i < m := hi; omega)]
    have := Nat.mod_lt (X / 10 ^ (d.nd + e - 1 - i)) (show 0 < 10 by omega)
    omega
  · rw [hb, h0]; omega
  · show (if m = 0 then 0 else d.dp + (e : Int)) = d.dp + e
    rw [if_neg (by omega)]
  · rw [hb, h0]
    subst he
    rw [Nat.add_sub_cancel_left, Nat.add_zero, Nat.le_div_iff_mul_le (Nat.pow_pos (by omega)), ← hX]
    calc 2 ^ k * (d.b 0 - 48) * 10 ^ (d.nd - 1) = (d.b 0 - 48) * 10 ^ (d.nd - 1) * 2 ^ k := by simp only [Nat.mul_left_comm, Nat.mul_comm]
      _ ≤ _ := Nat.mul_le_mul_right _ (hok.leadv hl)
end Go.Proofs.YtpjfmfaijcbopaaGreatDoor
