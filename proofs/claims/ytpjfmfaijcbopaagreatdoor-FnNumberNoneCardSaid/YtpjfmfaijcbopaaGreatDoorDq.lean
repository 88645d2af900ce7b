/- Plain laws: what stands between quotes, on a list of runes. No program in sight. -/
import Derived.Test.YtpjfmfaijcbopaaGreatDoorPlain
namespace Go.Proofs.YtpjfmfaijcbopaaGreatDoor
open Go.RowKit

/-- The worth of a hex digit; below 0: it is none. -/
def hexv (c : Int) : Int := if 48 ≤ c ∧ c ≤ 57 then c - 48 else if 97 ≤ c ∧ c ≤ 102 then c - 87 else if 65 ≤ c ∧ c ≤ 70 then c - 55 else -1
theorem hexv_hi (c : Int) : hexv c ≤ 15 := by unfold hexv; split <;> (try split) <;> (try split) <;> omega
theorem hexv_lo (c : Int) : -1 ≤ hexv c := by unfold hexv; split <;> (try split) <;> (try split) <;> omega
/-- How many hex digits follow a letter behind a backslash. -/
def longN (c : Int) : Nat := if c = 120 then 2 else if c = 117 then 4 else if c = 85 then 8 else 0
/-- What a letter behind a backslash stands for; below 0: it stands for nothing. -/
def named (c : Int) : Int :=
  if c = 48 then 0 else if c = 97 then 7 else if c = 98 then 8 else if c = 116 ∨ c = 9 then 9 else if c = 110 then 10 else if c = 118 then 11 else if c = 102 then 12 else
  if c = 114 then 13 else if c = 101 then 27 else if c = 32 ∨ c = 34 ∨ c = 92 then c else if c = 78 then 133 else if c = 95 then 160 else if c = 76 then 8232 else if c = 80 then 8233 else -1
/-- The number of hex digits, on top of v. -/
def hexs : Int → List Int → Option Int
  | v, [] => some v
  | v, d :: t => if hexv d < 0 then none else hexs (v * 16 + hexv d) t
/-- The escape that stands behind a backslash: its character, and how many runes it has; none: it is wrong. -/
def esc : List Int → Option (Int × Nat)
  | [] => none
  | d :: t =>
    if longN d = 0 then (if named d < 0 then none else some (named d, 1))
    else if t.length < longN d then none
    else match hexs 0 (t.take (longN d)) with
      | none => none
      | some v => if v ≤ 1114111 ∧ (v < 55296 ∨ 57343 < v) then some (v, longN d + 1) else none

/-- What stands between double quotes: none, nothing is said of it; some none, something is wrong; else the characters. -/
def dqF : Nat → List Int → Option (Option (List Int))
  | 0, _ => some (some [])
  | _ + 1, [] => some (some [])
  | f + 1, c :: t =>
    if c = 92 then
      match t with
      | [] => none
      | d :: t' =>
        if d = 47 ∨ d = 39 then none
        else match esc (d :: t') with
          | none => (dqF f t').map fun _ => none
          | some (v, k) => (dqF f ((d :: t').drop k)).map (Option.map (v :: ·))
    else if c = 34 then none
    else (dqF f t).map (Option.map (c :: ·))
def dq (l : List Int) : Option (Option (List Int)) := dqF l.length l

theorem esc_width {d : Int} {t : List Int} {v : Int} {k : Nat} (h : esc (d :: t) = some (v, k)) : 1 ≤ k ∧ k ≤ (d :: t).length := by
  unfold esc at h
  by_cases h0 : longN d = 0
  · simp only [if_pos h0] at h
    by_cases h1 : named d < 0
    · simp [if_pos h1] at h
    · simp only [if_neg h1] at h
      cases h
      simp
  · simp only [if_neg h0] at h
    by_cases h1 : t.length < longN d
    · simp [if_pos h1] at h
    · simp only [if_neg h1] at h
      cases hx : hexs 0 (t.take (longN d)) with
      | none => simp [hx] at h
      | some v' =>
        simp only [hx] at h
        by_cases h2 : v' ≤ 1114111 ∧ (v' < 55296 ∨ 57343 < v')
        · simp only [if_pos h2] at h
          cases h
          simp; omega
        · simp [if_neg h2] at h

theorem dqF_two (f : Nat) (d : Int) (t : List Int) : dqF (f + 1) (92 :: d :: t) = if d = 47 ∨ d = 39 then none
        else match esc (d :: t) with
          | none => (dqF f t).map fun _ => none
          | some (v, k) => (dqF f ((d :: t).drop k)).map (Option.map (v :: ·)) := rfl
theorem dqF_cons (f : Nat) (c : Int) (t : List Int) (h : c ≠ 92) : dqF (f + 1) (c :: t) = if c = 34 then none else (dqF f t).map (Option.map (c :: ·)) := by
  show (if c = 92 then _ else _) = _
  rw [if_neg h]
theorem dqF_nil : ∀ f, dqF f [] = some (some [])
  | 0 => rfl
  | _ + 1 => rfl
theorem dqF_fuel : ∀ (n m : Nat) (l : List Int), l.length ≤ n → l.length ≤ m → dqF n l = dqF m l
  | n, m, [], _, _ => by rw [dqF_nil, dqF_nil]
  | 0, _, c :: t, hn, _ => by simp at hn
  | n + 1, 0, c :: t, _, hm => by simp at hm
  | n + 1, m + 1, c :: t, hn, hm => by
    simp only [List.length_cons] at hn hm
    unfold dqF
    by_cases h92 : c = 92
    · rw [if_pos h92, if_pos h92]
      cases t with
      | nil => rfl
      | cons d t' =>
        simp only [List.length_cons] at hn hm
        by_cases hq : d = 47 ∨ d = 39
        · simp only [if_pos hq]
        · simp only [if_neg hq]
          cases he : esc (d :: t') with
          | none => simp only []; rw [dqF_fuel n m t' (by omega) (by omega)]
          | some r =>
            obtain ⟨v, k⟩ := r
            have hw := esc_width he
            simp only []
            rw [dqF_fuel n m _ (by rw [List.length_drop]; simp; omega) (by rw [List.length_drop]; simp; omega)]
    · rw [if_neg h92, if_neg h92, dqF_fuel n m t (by omega) (by omega)]
theorem dqF_dq (n : Nat) (l : List Int) (h : l.length ≤ n) : dqF n l = dq l := dqF_fuel n _ l h (Nat.le_refl _)
theorem dq_nil : dq [] = some (some []) := rfl
theorem dq_plain (c : Int) (t : List Int) (h1 : c ≠ 92) (h2 : c ≠ 34) : dq (c :: t) = (dq t).map (Option.map (c :: ·)) := by
  unfold dq
  show dqF (t.length + 1) (c :: t) = _
  rw [dqF_cons _ _ _ h1, if_neg h2]
theorem dq_quote (t : List Int) : dq (34 :: t) = none := by
  unfold dq
  show dqF (t.length + 1) (34 :: t) = _
  rw [dqF_cons _ _ _ (by decide), if_pos rfl]
theorem dq_slash (d : Int) (t : List Int) (h : d = 47 ∨ d = 39) : dq (92 :: d :: t) = none := by
  unfold dq
  show dqF ((d :: t).length + 1) (92 :: d :: t) = _
  rw [dqF_two]; simp [h]
theorem dq_wrong (d : Int) (t : List Int) (h : ¬ (d = 47 ∨ d = 39)) (he : esc (d :: t) = none) : dq (92 :: d :: t) = (dq t).map fun _ => none := by
  show dqF ((d :: t).length + 1) (92 :: d :: t) = _
  rw [dqF_two]
  simp only [if_neg h, he]
  rw [dqF_dq _ _ (by simp)]
theorem dq_esc (d : Int) (t : List Int) (v : Int) (k : Nat) (h : ¬ (d = 47 ∨ d = 39)) (he : esc (d :: t) = some (v, k)) : dq (92 :: d :: t) = (dq ((d :: t).drop k)).map (Option.map (v :: ·)) := by
  show dqF ((d :: t).length + 1) (92 :: d :: t) = _
  rw [dqF_two]
  simp only [if_neg h, he]
  rw [dqF_dq _ _ (by rw [List.length_drop]; omega)]

/-- What stands between single quotes. -/
def sqF : Nat → List Int → Option (List Int)
  | 0, _ => some []
  | _ + 1, [] => some []
  | f + 1, c :: t =>
    if c = 39 then
      match t with
      | [] => none
      | d :: t' => if d = 39 then (sqF f t').map fun r => 39 :: r else none
    else (sqF f t).map fun r => c :: r
def sq (l : List Int) : Option (List Int) := sqF l.length l
theorem sqF_two (f : Nat) (d : Int) (t : List Int) : sqF (f + 1) (39 :: d :: t) = if d = 39 then (sqF f t).map fun r => 39 :: r else none := rfl
theorem sqF_cons (f : Nat) (c : Int) (t : List Int) (h : c ≠ 39) : sqF (f + 1) (c :: t) = (sqF f t).map fun r => c :: r := by
  show (if c = 39 then _ else _) = _
  rw [if_neg h]
theorem sqF_nil : ∀ f, sqF f [] = some []
  | 0 => rfl
  | _ + 1 => rfl
theorem sqF_fuel : ∀ (n m : Nat) (l : List Int), l.length ≤ n → l.length ≤ m → sqF n l = sqF m l
  | n, m, [], _, _ => by rw [sqF_nil, sqF_nil]
  | 0, _, c :: t, hn, _ => by simp at hn
  | n + 1, 0, c :: t, _, hm => by simp at hm
  | n + 1, m + 1, c :: t, hn, hm => by
    simp only [List.length_cons] at hn hm
    unfold sqF
    by_cases h39 : c = 39
    · rw [if_pos h39, if_pos h39]
      cases t with
      | nil => rfl
      | cons d t' =>
        simp only [List.length_cons] at hn hm
        by_cases hq : d = 39
        · simp only [if_pos hq]
          rw [sqF_fuel n m t' (by omega) (by omega)]
        · simp only [if_neg hq]
    · rw [if_neg h39, if_neg h39, sqF_fuel n m t (by omega) (by omega)]
theorem sq_nil : sq [] = some [] := rfl
theorem sq_plain (c : Int) (t : List Int) (h : c ≠ 39) : sq (c :: t) = (sq t).map fun r => c :: r := by
  show sqF (t.length + 1) (c :: t) = _
  rw [sqF_cons _ _ _ h]; rfl
theorem sq_two (t : List Int) : sq (39 :: 39 :: t) = (sq t).map fun r => 39 :: r := by
  show sqF ((39 :: t).length + 1) (39 :: 39 :: t) = _
  rw [sqF_two, if_pos rfl]
  rw [sqF_fuel (39 :: t).length t.length t (by simp) (by simp)]; rfl
theorem sq_one (d : Int) (t : List Int) (h : d ≠ 39) : sq (39 :: d :: t) = none := by
  show sqF ((d :: t).length + 1) (39 :: d :: t) = _
  rw [sqF_two]; simp [h]
theorem sq_end : sq [39] = none := rfl

theorem decodeN_hi (n b0 b1 b2 b3 : Nat) (h : 128 ≤ b0) : 128 ≤ (Lib.decodeN n b0 b1 b2 b3).1 := by
  unfold Lib.decodeN
  rw [if_neg (by omega)]
  split
  · split <;> (simp only []; omega)
  · split
    · split <;> (simp only []; omega)
    · split
      · split <;> (simp only []; omega)
      · simp only []; omega
theorem decodeL_hi (b : UInt8) (t : List UInt8) (h : 128 ≤ b.toNat) : 128 ≤ (Lib.decodeL (b :: t)).1 := by
  rw [Lib.decodeL_N]
  exact decodeN_hi _ _ _ _ _ (by simpa using h)
/-- A rune of ASCII in a text is a byte of it. -/
theorem rl_mem : ∀ (n : Nat) (l : List UInt8) (c : Int), l.length ≤ n → c ∈ rl l → c < 128 → ∃ b ∈ l, (b.toNat : Int) = c
  | 0, l, c, hn, hc, _ => by
    have : l = [] := List.eq_nil_of_length_eq_zero (by omega)
    subst this
    simp [rl_nil] at hc
  | n + 1, [], c, hn, hc, _ => by simp [rl_nil] at hc
  | n + 1, b :: t, c, hn, hc, h => by
    have hw := Lib.decodeL_width (b :: t)
    rw [rl_step _ (by simp)] at hc
    rcases List.mem_cons.1 hc with hc | hc
    · by_cases hb : b.toNat < 128
      · refine ⟨b, by simp, ?_⟩
        rw [Lib.decodeL_ascii b t hb] at hc
        exact hc.symm
      · exfalso
        have := decodeL_hi b t (by omega)
        omega
    · obtain ⟨x, hx, he⟩ := rl_mem n _ c (by rw [List.length_drop]; omega) hc h
      exact ⟨x, List.mem_of_mem_drop hx, he⟩
theorem runesBytes_append (a b : List Int) : runesBytes (a ++ b) = runesBytes a ++ runesBytes b := by
  apply ByteArray.ext
  apply Array.toList_inj.1
  rw [ByteArray.data_append, Array.toList_append, runesBytes_list, runesBytes_list, runesBytes_list, List.flatMap_append]
theorem runesBytes_nil : runesBytes [] = ByteArray.empty := rfl
theorem runesBytes_one (c : Int) : runesBytes [c] = Utf8.encode c := by
  apply ByteArray.ext
  apply Array.toList_inj.1
  rw [runesBytes_list, encode_list]; simp
theorem runesBytes_snoc (a : List Int) (c : Int) : runesBytes (a ++ [c]) = runesBytes a ++ Utf8.encode c := by rw [runesBytes_append, runesBytes_one]
end Go.Proofs.YtpjfmfaijcbopaaGreatDoor
