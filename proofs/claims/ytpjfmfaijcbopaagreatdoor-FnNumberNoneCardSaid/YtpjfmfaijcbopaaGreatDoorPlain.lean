/- Plain laws: the runes of a text, on its list of bytes. No program in sight. -/
import Derived.Test.YtpjfmfaijcbopaaGreatDoorBase
import Derived.Lib.ValidLaws
import Derived.Laws.Cover4
namespace Go.Proofs.YtpjfmfaijcbopaaGreatDoor
open Go.RowKit

def rlF : Nat → List UInt8 → List Int
  | 0, _ => []
  | n + 1, l => if l = [] then [] else ((Lib.decodeL l).1 : Int) :: rlF n (l.drop (Lib.decodeL l).2)
/-- The runes of a list of bytes. -/
def rl (l : List UInt8) : List Int := rlF l.length l

theorem rlF_nil : ∀ n, rlF n [] = []
  | 0 => rfl
  | _ + 1 => by simp [rlF]
theorem rlF_fuel : ∀ (n m : Nat) (l : List UInt8), l.length ≤ n → l.length ≤ m → rlF n l = rlF m l
  | 0, m, l, hn, _ => by
    have : l = [] := List.eq_nil_of_length_eq_zero (by omega)
    subst this
    rw [rlF_nil, rlF_nil]
  | n + 1, 0, l, _, hm => by
    have : l = [] := List.eq_nil_of_length_eq_zero (by omega)
    subst this
    rw [rlF_nil, rlF_nil]
  | n + 1, m + 1, l, hn, hm => by
    unfold rlF
    by_cases hne : l = []
    · simp [hne]
    · have hw := Lib.decodeL_width l
      have hl : 0 < l.length := List.length_pos_iff.2 hne
      rw [if_neg hne, if_neg hne, rlF_fuel n m (l.drop (Lib.decodeL l).2) (by rw [List.length_drop]; omega) (by rw [List.length_drop]; omega)]
theorem rl_nil : rl [] = [] := rfl
theorem rl_step (l : List UInt8) (hne : l ≠ []) : rl l = ((Lib.decodeL l).1 : Int) :: rl (l.drop (Lib.decodeL l).2) := by
  have hl : 0 < l.length := List.length_pos_iff.2 hne
  have hw := Lib.decodeL_width l
  obtain ⟨n, hn⟩ : ∃ n, l.length = n + 1 := ⟨l.length - 1, by omega⟩
  unfold rl
  rw [hn]
  show (if l = [] then [] else _) = _
  rw [if_neg hne, rlF_fuel n (l.drop (Lib.decodeL l).2).length _ (by rw [List.length_drop]; omega) (Nat.le_refl _)]
theorem decs_rl (s : ByteArray) : ∀ (f i : Nat), decs s f i = rlF f (s.data.toList.drop i)
  | 0, _ => rfl
  | f + 1, i => by
    unfold decs rlF
    by_cases h : i < s.size
    · have hne : s.data.toList.drop i ≠ [] := by
        intro e
        have := congrArg List.length e
        simp at this
        have h2 : s.data.size = s.size := rfl
        omega
      rw [if_pos h, if_neg hne, Lib.decodeL_drop, decs_rl s f, List.drop_drop]
    · have he : s.data.toList.drop i = [] := by
        apply List.drop_eq_nil_of_le
        simp
        have h2 : s.data.size = s.size := rfl
        omega
      rw [if_neg h, if_pos he]
theorem runes_rl (s : ByteArray) : runes s = rl s.data.toList := by
  unfold runes rl
  rw [decs_rl, List.drop_zero]
  rfl
theorem rl_cons (b : UInt8) (t : List UInt8) (h : b.toNat < 128) : rl (b :: t) = (b.toNat : Int) :: rl t := by
  rw [rl_step _ (by simp), Lib.decodeL_ascii b t h]
  rfl

set_option maxHeartbeats 4000000 in
/-- A sound rune is read alike whatever follows. -/
theorem decodeN_more (n n' b0 b1 b2 b3 c1 c2 c3 : Nat) (hn : n ≤ n') (h1 : 1 < n → c1 = b1) (h2 : 2 < n → c2 = b2) (h3 : 3 < n → c3 = b3)
    (hv : ¬ ((Lib.decodeN n b0 b1 b2 b3).1 = 65533 ∧ (Lib.decodeN n b0 b1 b2 b3).2 = 1)) : Lib.decodeN n' b0 c1 c2 c3 = Lib.decodeN n b0 b1 b2 b3 := by
  by_cases a1 : 1 < n
  · rw [h1 a1]
    by_cases a2 : 2 < n
    · rw [h2 a2]
      by_cases a3 : 3 < n
      · rw [h3 a3]
        have e1 : 1 < n' := by omega
        have e2 : 2 < n' := by omega
        have e3 : 3 < n' := by omega
        simp only [Lib.decodeN, a1, a2, a3, e1, e2, e3]
      · have e1 : 1 < n' := by omega
        have e2 : 2 < n' := by omega
        simp only [Lib.decodeN, a1, a2, a3, e1, e2, false_and, and_false, if_false, true_and] at hv ⊢
        by_cases q : b0 < 128
        · simp only [if_pos q]
        · simp only [if_neg q] at hv ⊢
          by_cases q6 : b0 / 32 = 6 ∧ b1 / 64 = 2
          · simp only [if_pos q6]
          · simp only [if_neg q6] at hv ⊢
            by_cases q14 : b0 / 16 = 14 ∧ b1 / 64 = 2 ∧ b2 / 64 = 2
            · simp only [if_pos q14]
            · simp only [if_neg q14] at hv ⊢
              exact (hv ⟨trivial, trivial⟩).elim
    · have e1 : 1 < n' := by omega
      simp only [Lib.decodeN, a1, a2, e1, false_and, and_false, if_false, true_and] at hv ⊢
      by_cases q : b0 < 128
      · simp only [if_pos q]
      · simp only [if_neg q] at hv ⊢
        by_cases q6 : b0 / 32 = 6 ∧ b1 / 64 = 2
        · simp only [if_pos q6]
        · simp only [if_neg q6] at hv ⊢
          exact (hv ⟨trivial, trivial⟩).elim
  · simp only [Lib.decodeN, a1, false_and, and_false, if_false] at hv ⊢
    by_cases q : b0 < 128
    · simp only [if_pos q]
    · simp only [if_neg q] at hv ⊢
      exact (hv ⟨trivial, trivial⟩).elim

theorem decodeL_more (l t : List UInt8) (hne : l ≠ []) (hv : ¬ ((Lib.decodeL l).1 = 65533 ∧ (Lib.decodeL l).2 = 1)) : Lib.decodeL (l ++ t) = Lib.decodeL l := by
  have hl : 0 < l.length := List.length_pos_iff.2 hne
  have hg : ∀ i, i < l.length → (l ++ t).getD i 0 = l.getD i 0 := fun i hi => by simp [List.getD, List.getElem?_append_left hi]
  rw [Lib.decodeL_N l] at hv ⊢
  rw [Lib.decodeL_N, hg 0 hl]
  exact decodeN_more _ _ _ _ _ _ _ _ _ (by simp) (fun h => by rw [hg 1 h]) (fun h => by rw [hg 2 h]) (fun h => by rw [hg 3 h]) hv

/-- The runes of a valid text stand ahead of what follows. -/
theorem rl_append : ∀ (n : Nat) (l t : List UInt8), l.length ≤ n → Lib.validD l = true → rl (l ++ t) = rl l ++ rl t
  | 0, l, t, hn, _ => by
    have : l = [] := List.eq_nil_of_length_eq_zero (by omega)
    subst this
    simp [rl_nil]
  | n + 1, l, t, hn, hv => by
    by_cases hne : l = []
    · subst hne; simp [rl_nil]
    · have hw := Lib.decodeL_width l
      have hle := Lib.decodeL_le l hne
      have hl : 0 < l.length := List.length_pos_iff.2 hne
      rw [Lib.validD_step l hne] at hv
      split at hv
      · cases hv
      · rename_i hg
        rw [rl_step (l ++ t) (by simp [hne]), decodeL_more l t hne hg, rl_step l hne, List.drop_append_of_le_length hle, rl_append n _ t (by rw [List.length_drop]; omega) hv]
        rfl

theorem encode_list (r : Int) : (Utf8.encode r).data.toList = Lib.encodeRune r := by
  have hof : ∀ n : Nat, n.toUInt8 = UInt8.ofNat n := fun _ => rfl
  obtain ⟨c, hc⟩ : ∃ c, (if Utf8.valid r = true then r.toNat else Utf8.runeError) = c := ⟨_, rfl⟩
  unfold Utf8.encode
  simp only [hc]
  by_cases hv : Utf8.valid r = true
  · rw [if_pos hv] at hc
    have hr : 0 ≤ r ∧ (r < 55296 ∨ (57344 ≤ r ∧ r ≤ 1114111)) := by
      simp only [Utf8.valid, Bool.or_eq_true, Bool.and_eq_true, decide_eq_true_eq] at hv
      omega
    unfold Lib.encodeRune Lib.encodeRuneZ
    by_cases q1 : r ≤ 127
    · rw [if_pos (by omega : c < 0x80), if_pos (by omega : 0 ≤ r ∧ r ≤ 127)]
      simp [hc]
    · rw [if_neg (by omega : ¬ c < 0x80), if_neg (by omega : ¬ (0 ≤ r ∧ r ≤ 127))]
      by_cases q2 : r ≤ 2047
      · rw [if_pos (by omega : c < 0x800), if_pos (by omega : 128 ≤ r ∧ r ≤ 2047)]
        simp only [List.map_cons, List.map_nil, hof]
        rw [(by omega : (192 + r / 64).toNat = 0xC0 + c / 64), (by omega : (128 + r % 64).toNat = 0x80 + c % 64)]
      · rw [if_neg (by omega : ¬ c < 0x800), if_neg (by omega : ¬ (128 ≤ r ∧ r ≤ 2047))]
        by_cases q3 : r ≤ 65535
        · rw [if_pos (by omega : c < 0x10000), if_pos (by omega : (2048 ≤ r ∧ r < 55296) ∨ (57343 < r ∧ r ≤ 65535))]
          simp only [List.map_cons, List.map_nil, hof]
          rw [(by omega : (224 + r / 4096).toNat = 0xE0 + c / 4096), (by omega : (128 + r / 64 % 64).toNat = 0x80 + c / 64 % 64), (by omega : (128 + r % 64).toNat = 0x80 + c % 64)]
        · rw [if_neg (by omega : ¬ c < 0x10000), if_neg (by omega : ¬ ((2048 ≤ r ∧ r < 55296) ∨ (57343 < r ∧ r ≤ 65535))), if_pos (by omega : 65536 ≤ r ∧ r ≤ 1114111)]
          simp only [List.map_cons, List.map_nil, hof]
          rw [(by omega : (240 + r / 262144).toNat = 0xF0 + c / 262144), (by omega : (128 + r / 4096 % 64).toNat = 0x80 + c / 4096 % 64), (by omega : (128 + r / 64 % 64).toNat = 0x80 + c / 64 % 64),
            (by omega : (128 + r % 64).toNat = 0x80 + c % 64)]
  · rw [if_neg hv] at hc
    have hr : ¬ (0 ≤ r ∧ (r < 55296 ∨ (57344 ≤ r ∧ r ≤ 1114111))) := by
      simp only [Utf8.valid, Bool.or_eq_true, Bool.and_eq_true, decide_eq_true_eq] at hv
      omega
    subst hc
    unfold Lib.encodeRune Lib.encodeRuneZ
    rw [if_neg (by omega : ¬ (0 ≤ r ∧ r ≤ 127)), if_neg (by omega : ¬ (128 ≤ r ∧ r ≤ 2047)), if_neg (by omega : ¬ ((2048 ≤ r ∧ r < 55296) ∨ (57343 < r ∧ r ≤ 65535))), if_neg (by omega : ¬ (65536 ≤ r ∧ r ≤ 1114111))]
    decide
theorem foldl_bytes : ∀ (ns : List Int) (s : ByteArray), (ns.foldl (fun r n => r ++ Utf8.encode n) s).data.toList = s.data.toList ++ ns.flatMap Lib.encodeRune
  | [], s => by simp
  | n :: ns, s => by
    rw [List.foldl_cons, foldl_bytes ns, ByteArray.data_append, Array.toList_append, encode_list, List.flatMap_cons, List.append_assoc]
theorem runesBytes_list (ns : List Int) : (runesBytes ns).data.toList = ns.flatMap Lib.encodeRune := by
  unfold runesBytes
  rw [foldl_bytes]
  rfl
theorem rl_back : ∀ (n : Nat) (l : List UInt8), l.length ≤ n → Lib.validD l = true → (rl l).flatMap Lib.encodeRune = l
  | 0, l, hn, _ => by
    have : l = [] := List.eq_nil_of_length_eq_zero (by omega)
    subst this
    rfl
  | n + 1, l, hn, hv => by
    by_cases hne : l = []
    · subst hne; rfl
    · have hw := Lib.decodeL_width l
      have hl : 0 < l.length := List.length_pos_iff.2 hne
      rw [Lib.validD_step l hne] at hv
      split at hv
      · cases hv
      · rename_i hg
        rw [rl_step l hne, List.flatMap_cons, rl_back n _ (by rw [List.length_drop]; omega) hv, Lib.encode_decode l hne hg, List.take_append_drop]
/-- A valid text's runes, written, are the text. -/
theorem runes_back (s : ByteArray) (h : Lib.validD s.data.toList = true) : runesBytes (runes s) = s := by
  have : (runesBytes (runes s)).data.toList = s.data.toList := by rw [runesBytes_list, runes_rl, rl_back _ _ (Nat.le_refl _) h]
  have h2 := Array.toList_inj.1 this
  exact ByteArray.ext h2
theorem runes_append (s t : ByteArray) (h : Lib.validD s.data.toList = true) : runes (s ++ t) = runes s ++ runes t := by
  rw [runes_rl, runes_rl, runes_rl, ByteArray.data_append, Array.toList_append, rl_append _ _ _ (Nat.le_refl _) h]
end Go.Proofs.YtpjfmfaijcbopaaGreatDoor
