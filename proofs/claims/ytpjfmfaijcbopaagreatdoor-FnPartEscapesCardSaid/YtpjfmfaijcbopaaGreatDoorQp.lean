/- Plain laws of quoted scalars: what the runes of a text between quotes are. -/
import Derived.Test.YtpjfmfaijcbopaaGreatDoorQb
import Derived.Test.YtpjfmfaijcbopaaGreatDoorPlain
import Derived.Test.YtpjfmfaijcbopaaGreatDoorLeft
namespace Go.Proofs.YtpjfmfaijcbopaaGreatDoor
open Go.RowKit Go.Proofs

theorem hasB_no {s t : ByteArray} (h : hasB s t = false) (i k : Nat) (hi : i < s.size) (hk : k < t.size) : by' s i ≠ by' t k := by
  unfold hasB at h
  rw [List.any_eq_false] at h
  have h1 := h i (List.mem_range.2 hi)
  simp only [Bool.not_eq_true] at h1
  rw [List.any_eq_false] at h1
  have h2 := h1 k (List.mem_range.2 hk)
  simpa using h2
/-- A sign of ASCII that no byte of a text is stands not among its runes. -/
theorem rune_not {s : ByteArray} {c : Nat} (hc : c < 128) (h0 : c ≠ 0) (h : ∀ i, i < s.size → by' s i ≠ c) (j : Nat) : (runes s).getD j 0 ≠ c := by
  intro he
  by_cases hj : j < (runes s).length
  · have hm : (c : Int) ∈ runes s := by
      rw [← he]
      simp only [List.getD, List.getElem?_eq_getElem hj, Option.getD_some]
      exact List.getElem_mem hj
    rw [runes_rl] at hm
    obtain ⟨b, hb, hbe⟩ := rl_mem _ _ _ (Nat.le_refl _) hm (by omega)
    obtain ⟨i, hi, hie⟩ := List.getElem_of_mem hb
    have hsz : i < s.size := by simpa using hi
    apply h i hsz
    unfold by'
    rw [List.getD, List.getElem?_eq_getElem hi, Option.getD_some, hie]
    omega
  · rw [List.getD, List.getElem?_eq_none (by omega)] at he
    simp at he
    omega

/-- The last rune of a valid text is no backslash if its last byte is none. -/
theorem last_rune {s : ByteArray} (hv : Lib.validD s.data.toList = true) (h : (decide (s.size ≠ 0) && by' s (s.size - 1) == 92) = false) : (runes s).getD ((runes s).length - 1) 0 ≠ 92 := by
  intro he
  have hback := runes_back s hv
  rcases List.eq_nil_or_concat (runes s) with hn | ⟨l, a, hl⟩
  · rw [hn] at he
    simp at he
  · rw [List.concat_eq_append] at hl
    rw [hl] at he hback
    simp [List.getD] at he
    subst he
    rw [runesBytes_snoc] at hback
    have h92 : Utf8.encode 92 = ⟨#[92]⟩ := by decide
    rw [h92] at hback
    have hsz : s.size = (runesBytes l).size + 1 := by rw [← hback, ByteArray.size_append]; rfl
    have hb : by' s (s.size - 1) = 92 := by
      unfold by'
      rw [hsz, ← hback, ByteArray.data_append, Array.toList_append]
      have hlen : (runesBytes l).data.toList.length = (runesBytes l).size := by simp
      rw [List.getD, Nat.add_sub_cancel, List.getElem?_append_right (by omega), hlen, Nat.sub_self]
      rfl
    rw [hb, decide_eq_true (by omega)] at h
    simp at h

/-- The runes of a text that begins with a quote, a valid line and a quote. -/
theorem quo_runes (q : UInt8) (hq : q.toNat < 128) (s r : ByteArray) (hv : Lib.validD s.data.toList = true) :
    runes (⟨#[q]⟩ ++ s ++ ⟨#[q]⟩ ++ r) = (q.toNat : Int) :: (runes s ++ (q.toNat : Int) :: runes r) := by
  rw [runes_rl, runes_rl, runes_rl]
  simp only [ByteArray.data_append, Array.toList_append, List.append_assoc]
  show rl (q :: (s.data.toList ++ (q :: r.data.toList))) = _
  rw [rl_cons q _ hq, rl_append _ _ _ (Nat.le_refl _) hv, rl_cons q _ hq]
theorem quo_of (q : UInt8) (hq : q.toNat < 128) (s r : ByteArray) (hrow : rowB s = true) (h1 : s.size ≤ 1000) (h2 : r.size ≤ 1000) (hh : hasB s ⟨#[9, 85]⟩ = false) :
    Quo q.toNat (runes (⟨#[q]⟩ ++ s ++ ⟨#[q]⟩ ++ r)) (runes s) := by
  obtain ⟨hok, hL⟩ := line_of hrow
  have hv : Lib.validD s.data.toList = true := by unfold okText at hok; simp at hok; exact hok.2
  rw [quo_runes q hq s r hv]
  have hl1 := runes_length s
  have hl2 := runes_length r
  have hc : ∀ j, content ((runes s).getD j 0) = true ∨ (runes s).getD j 0 = 0 := fun j => by
    by_cases hj : j < (runes s).length
    · left
      unfold rowB allIn at hrow
      simp only [Bool.and_eq_true] at hrow
      have := List.all_eq_true.1 hrow.2 _ (List.getElem_mem hj)
      simp only [List.getD, List.getElem?_eq_getElem hj, Option.getD_some]
      simpa using this
    · right
      simp [List.getD, List.getElem?_eq_none (by omega : (runes s).length ≤ j)]
  refine ⟨rfl, fun j hj => ?_, ?_, ?_, by omega, ?_, hL.ran, fun j => ⟨hL.nol j, ?_, ?_, ?_⟩⟩
  · rw [Nat.add_comm]
    simp [List.getD, List.getElem?_append_left hj]
  · rw [Nat.add_comm]
    simp [List.getD]
  · simp
  · simp; omega
  · rcases hc j with h | h
    · rintro e
      rw [e] at h
      revert h; decide
    · omega
  · exact rune_not (c := 9) (by omega) (by omega) (fun i hi => hasB_no hh i 0 hi (by decide)) j
  · exact rune_not (c := 85) (by omega) (by omega) (fun i hi => hasB_no hh i 1 hi (by decide)) j
/-- What stands behind the closing quote. -/
theorem quo_next (q : UInt8) (hq : q.toNat < 128) (s r : ByteArray) (hv : Lib.validD s.data.toList = true) (hr : 0 < r.size → by' r 0 ≠ q.toNat) :
    (runes s).length + 2 < (runes (⟨#[q]⟩ ++ s ++ ⟨#[q]⟩ ++ r)).length → (runes (⟨#[q]⟩ ++ s ++ ⟨#[q]⟩ ++ r)).getD ((runes s).length + 2) 0 ≠ q.toNat := by
  rw [quo_runes q hq s r hv]
  intro h
  have hl2 := runes_length r
  simp at h
  have hrs : 0 < r.size := by omega
  have h3 := hr hrs
  have e : ((q.toNat : Int) :: (runes s ++ (q.toNat : Int) :: runes r)).getD ((runes s).length + 2) 0 = (runes r).getD 0 0 := by
    simp only [List.getD, List.getElem?_cons_succ]
    rw [List.getElem?_append_right (by omega), show (runes s).length + 1 - (runes s).length = 0 + 1 by omega, List.getElem?_cons_succ]
  rw [e]
  obtain ⟨⟨l⟩⟩ := r
  cases l with
  | nil => simp [ByteArray.size] at hrs
  | cons b t =>
    rw [runes_rl]
    by_cases hb : b.toNat < 128
    · rw [show (ByteArray.mk (b :: t).toArray).data.toList = b :: t from rfl, rl_cons b t hb]
      have : by' ⟨(b :: t).toArray⟩ 0 = b.toNat := rfl
      rw [this] at h3
      show ((b.toNat : Int)) ≠ _
      omega
    · rw [show (ByteArray.mk (b :: t).toArray).data.toList = b :: t from rfl, rl_step _ (by simp)]
      have := decodeL_hi b t (by omega)
      show (((Lib.decodeL (b :: t)).1 : Nat) : Int) ≠ _
      omega
end Go.Proofs.YtpjfmfaijcbopaaGreatDoor
