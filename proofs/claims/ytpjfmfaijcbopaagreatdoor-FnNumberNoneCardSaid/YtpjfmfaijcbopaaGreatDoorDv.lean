/- The arithmetic of texts of digits: a shift to the left. -/
import Derived.Test.YtpjfmfaijcbopaaGreatDoorDp
namespace Go.Proofs.YtpjfmfaijcbopaaGreatDoor

/-- The number that a text of digits tells. -/
def dval : List Nat → Nat
  | [] => 0
  | b :: bs => (b - 48) * 10 ^ bs.length + dval bs
/-- Digits alone. -/
def Digs (l : List Nat) : Prop := ∀ b ∈ l, 48 ≤ b ∧ b ≤ 57
theorem Digs.tail {b : Nat} {l : List Nat} (h : Digs (b :: l)) : Digs l := fun x hx => h x (List.mem_cons_of_mem _ hx)
theorem Digs.head {b : Nat} {l : List Nat} (h : Digs (b :: l)) : 48 ≤ b ∧ b ≤ 57 := h b (List.mem_cons_self ..)
theorem dval_lt : ∀ l : List Nat, Digs l → dval l < 10 ^ l.length
  | [], _ => by simp [dval]
  | b :: bs, h => by
    have h1 := dval_lt bs h.tail
    have h2 := h.head
    have h3 : (b - 48) * 10 ^ bs.length ≤ 9 * 10 ^ bs.length := Nat.mul_le_mul_right _ (by omega)
    simp only [dval, List.length_cons, Nat.pow_succ]
    omega
theorem dval_snoc : ∀ (l : List Nat) (b : Nat), dval (l ++ [b]) = dval l * 10 + (b - 48)
  | [], b => by simp [dval]
  | x :: xs, b => by
    simp only [List.cons_append, dval, dval_snoc xs b, List.length_append, List.length_cons, List.length_nil, Nat.pow_succ, Nat.zero_add]
    rw [Nat.add_mul, Nat.mul_assoc, Nat.add_assoc]
theorem pl_true : ∀ (D C : List Nat), Digs D → Digs C → (∀ j, j < C.length → 0 < dval (C.drop j)) → pl D C = true → dval D * 10 ^ C.length < dval C * 10 ^ D.length
  | D, [], _, _, _, h => by rw [pl_nil] at h; cases h
  | [], c :: cs, _, _, hs, _ => by
    have := hs 0 (by simp)
    simp only [List.drop_zero] at this
    simp [dval] at this ⊢
    omega
  | b :: bs, c :: cs, hD, hC, hs, h => by
    rw [pl_cons] at h
    have hb := hD.head
    have hc := hC.head
    have l1 := dval_lt bs hD.tail
    have l2 := dval_lt cs hC.tail
    simp only [dval, List.length_cons, Nat.pow_succ]
    by_cases hbc : b = c
    · subst hbc
      rw [if_pos rfl] at h
      have ih := pl_true bs cs hD.tail hC.tail (fun j hj => by have := hs (j + 1) (by simp; omega); simpa using this) h
      have e1 : ((b - 48) * 10 ^ bs.length + dval bs) * (10 ^ cs.length * 10) = ((b - 48) * (10 ^ bs.length * 10 ^ cs.length) + dval bs * 10 ^ cs.length) * 10 := by
        simp only [Nat.add_mul, Nat.mul_assoc]
      have e2 : ((b - 48) * 10 ^ cs.length + dval cs) * (10 ^ bs.length * 10) = ((b - 48) * (10 ^ bs.length * 10 ^ cs.length) + dval cs * 10 ^ bs.length) * 10 := by
        rw [Nat.mul_comm (10 ^ bs.length) (10 ^ cs.length)]
        simp only [Nat.add_mul, Nat.mul_assoc]
      rw [e1, e2]
      omega
    · rw [if_neg hbc] at h
      have hlt : b < c := by simpa using h
      have h1 : ((b - 48) * 10 ^ bs.length + dval bs) < (c - 48) * 10 ^ bs.length := by
        have : (b - 48 + 1) * 10 ^ bs.length ≤ (c - 48) * 10 ^ bs.length := Nat.mul_le_mul_right _ (by omega)
        rw [Nat.add_mul, Nat.one_mul] at this
        omega
      calc ((b - 48) * 10 ^ bs.length + dval bs) * (10 ^ cs.length * 10) < ((c - 48) * 10 ^ bs.length) * (10 ^ cs.length * 10) := Nat.mul_lt_mul_of_pos_right h1 (by have := Nat.pow_pos (n := cs.length) (show 0 < 10 by omega); omega)
        _ = ((c - 48) * 10 ^ cs.length) * (10 ^ bs.length * 10) := by
          simp only [Nat.mul_assoc, Nat.mul_left_comm, Nat.mul_comm]
        _ ≤ ((c - 48) * 10 ^ cs.length + dval cs) * (10 ^ bs.length * 10) := Nat.mul_le_mul_right _ (by omega)
theorem pl_false : ∀ (D C : List Nat), Digs D → Digs C → pl D C = false → dval C * 10 ^ D.length ≤ dval D * 10 ^ C.length
  | D, [], _, _, _ => by simp [dval]
  | [], c :: cs, _, _, h => by rw [pl_nil_cons] at h; cases h
  | b :: bs, c :: cs, hD, hC, h => by
    rw [pl_cons] at h
    have hb := hD.head
    have hc := hC.head
    have l1 := dval_lt bs hD.tail
    have l2 := dval_lt cs hC.tail
    simp only [dval, List.length_cons, Nat.pow_succ]
    by_cases hbc : b = c
    · subst hbc
      rw [if_pos rfl] at h
      have ih := pl_false bs cs hD.tail hC.tail h
      have e1 : ((b - 48) * 10 ^ bs.length + dval bs) * (10 ^ cs.length * 10) = ((b - 48) * (10 ^ bs.length * 10 ^ cs.length) + dval bs * 10 ^ cs.length) * 10 := by
        simp only [Nat.add_mul, Nat.mul_assoc]
      have e2 : ((b - 48) * 10 ^ cs.length + dval cs) * (10 ^ bs.length * 10) = ((b - 48) * (10 ^ bs.length * 10 ^ cs.length) + dval cs * 10 ^ bs.length) * 10 := by
        rw [Nat.mul_comm (10 ^ bs.length) (10 ^ cs.length)]
        simp only [Nat.add_mul, Nat.mul_assoc]
      rw [e1, e2]
      omega
    · rw [if_neg hbc] at h
      have hlt : c < b := by have : ¬ b < c := by simpa using h
                             omega
      have h1 : ((c - 48) * 10 ^ cs.length + dval cs) ≤ (b - 48) * 10 ^ cs.length := by
        have : (c - 48 + 1) * 10 ^ cs.length ≤ (b - 48) * 10 ^ cs.length := Nat.mul_le_mul_right _ (by omega)
        rw [Nat.add_mul, Nat.one_mul] at this
        omega
      calc ((c - 48) * 10 ^ cs.length + dval cs) * (10 ^ bs.length * 10) ≤ ((b - 48) * 10 ^ cs.length) * (10 ^ bs.length * 10) := Nat.mul_le_mul_right _ h1
        _ = ((b - 48) * 10 ^ bs.length) * (10 ^ cs.length * 10) := by
          simp only [Nat.mul_assoc, Nat.mul_left_comm, Nat.mul_comm]
        _ ≤ ((b - 48) * 10 ^ bs.length + dval bs) * (10 ^ cs.length * 10) := Nat.mul_le_mul_right _ (by omega)

/-- A row of the table of the left shift: delta new digits, one fewer below the cutoff. -/
structure Cheat (k delta : Nat) (C : List Nat) : Prop where
  pos : 1 ≤ delta
  small : delta ≤ 20
  digs : Digs C
  suf : ∀ j, j < C.length → 0 < dval (C.drop j)
  up : 2 ^ k ≤ 10 ^ delta
  lo : 10 ^ (delta - 1) ≤ 2 ^ k
  five : dval C * 2 ^ k = 10 ^ (C.length + delta - 1)

/-- How many digits the shifted number has. -/
theorem shift_digits {k delta : Nat} {C D : List Nat} (hC : Cheat k delta C) (hD : Digs D) (hlead : 10 ^ (D.length - 1) ≤ dval D) (hne : 0 < D.length) (n : Nat)
    (hn : n = D.length + delta - (if pl D C then 1 else 0)) : 10 ^ (n - 1) ≤ dval D * 2 ^ k ∧ dval D * 2 ^ k < 10 ^ n ∧ D.length ≤ n ∧ 1 ≤ n := by
  have hp := hC.pos
  have hlt := dval_lt D hD
  have ht : 0 < 10 ^ C.length := Nat.pow_pos (by omega)
  cases hpl : pl D C with
  | true =>
    rw [hpl] at hn
    simp only [if_true] at hn
    have h := pl_true D C hD hC.digs hC.suf hpl
    refine ⟨?_, ?_, by omega, by omega⟩
    · calc 10 ^ (n - 1) = 10 ^ (D.length - 1) * 10 ^ (delta - 1) := by rw [← Nat.pow_add]; congr 1; omega
        _ ≤ dval D * 2 ^ k := Nat.mul_le_mul hlead hC.lo
    · apply Nat.lt_of_mul_lt_mul_right (a := 10 ^ C.length)
      calc dval D * 2 ^ k * 10 ^ C.length = (dval D * 10 ^ C.length) * 2 ^ k := by simp only [Nat.mul_left_comm, Nat.mul_comm]
        _ < (dval C * 10 ^ D.length) * 2 ^ k := Nat.mul_lt_mul_of_pos_right h (Nat.pow_pos (by omega))
        _ = (dval C * 2 ^ k) * 10 ^ D.length := by simp only [Nat.mul_left_comm, Nat.mul_comm]
        _ = 10 ^ n * 10 ^ C.length := by rw [hC.five, ← Nat.pow_add, ← Nat.pow_add]; congr 1; omega
  | false =>
    rw [hpl] at hn
    simp only [Bool.false_eq_true, if_false] at hn
    have h := pl_false D C hD hC.digs hpl
    refine ⟨?_, ?_, by omega, by omega⟩
    · apply Nat.le_of_mul_le_mul_right (c := 10 ^ C.length) _ ht
      calc 10 ^ (n - 1) * 10 ^ C.length = (dval C * 2 ^ k) * 10 ^ D.length := by rw [hC.five, ← Nat.pow_add, ← Nat.pow_add]; congr 1; omega
        _ = (dval C * 10 ^ D.length) * 2 ^ k := by simp only [Nat.mul_left_comm, Nat.mul_comm]
        _ ≤ (dval D * 10 ^ C.length) * 2 ^ k := Nat.mul_le_mul_right _ h
        _ = dval D * 2 ^ k * 10 ^ C.length := by simp only [Nat.mul_left_comm, Nat.mul_comm]
    · calc dval D * 2 ^ k < 10 ^ D.length * 2 ^ k := Nat.mul_lt_mul_of_pos_right hlt (Nat.pow_pos (by omega))
        _ ≤ 10 ^ D.length * 10 ^ delta := Nat.mul_le_mul_left _ hC.up
        _ = 10 ^ n := by rw [← Nat.pow_add]; congr 1; omega
end Go.Proofs.YtpjfmfaijcbopaaGreatDoor
