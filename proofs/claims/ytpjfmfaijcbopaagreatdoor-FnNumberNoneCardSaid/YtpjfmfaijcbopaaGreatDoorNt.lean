/- The searches in texts that token.toNumber makes. -/
import Derived.Test.YtpjfmfaijcbopaaGreatDoorNn
import Derived.Test.YtpjfmfaijcbopaaGreatDoorRd
import Derived.Lib.AppendStr
namespace Go.Proofs.YtpjfmfaijcbopaaGreatDoor
open Go.RowKit Go.Proofs

def preB (s p : ByteArray) : Bool := decide (p.size ≤ s.size) && (s.data.toList.take p.size == p.data.toList)
set_option maxHeartbeats 4000000 in
theorem hasPre186 (s t : ByteArray) (w : World) : Calls Tryz.prog 186 #[.string s, .string t] w fun e w' => e = .returned (.bool (preB s t)) ∧ w = w' := by
  unfold preB
  by_cases h : t.size ≤ s.size
  · have hz : (t.size : Int) ≤ (s.size : Int) := by omega
    rw [decide_eq_true h, Bool.true_and]
    go_enter Tryz.func186, Tryz.ntmps186
    go_wp2
    go_ret
    refine ⟨ret_bool ?_, rfl⟩
    rw [Lib.toList_data, Lib.toList_data, Lib.extract_data]
    simp
  · have hz : ¬ (t.size : Int) ≤ (s.size : Int) := by omega
    rw [decide_eq_false h, Bool.false_and]
    go_enter Tryz.func186, Tryz.ntmps186
    go_wp2
    go_ret
    exact ⟨rfl, rfl⟩
set_option maxHeartbeats 1000000 in
theorem hasPre137 (s t : ByteArray) (w : World) : Calls Tryz.prog 137 #[.string s, .string t] w fun e w' => e = .returned (.bool (preB s t)) ∧ w = w' := by
  have c := Lib.hid (hasPre186 s t w)
  go_enter Tryz.func137, Tryz.ntmps137
  go_wp2_with (go_at_call 186; refine c.out.mono ?_; rintro e w' ⟨rfl, rfl⟩)
  go_ret
  exact ⟨rfl, rfl⟩
/-- What TrimPrefix leaves. -/
def trimB (s p : ByteArray) : ByteArray := if preB s p then s.extract p.size s.size else s
theorem preB_le {s p : ByteArray} (h : preB s p = true) : p.size ≤ s.size := by unfold preB at h; simp at h; exact h.1
set_option maxHeartbeats 2000000 in
theorem trim188 (s t : ByteArray) (w : World) : Calls Tryz.prog 188 #[.string s, .string t] w fun e w' => e = .returned (.string (trimB s t)) ∧ w = w' := by
  have c := hasPre186 s t w
  unfold trimB
  cases hb : preB s t with
  | true =>
    have hz : (t.size : Int) ≤ (s.size : Int) := by have := preB_le hb; omega
    rw [hb] at c
    have C := Lib.hid c
    clear c hb
    go_enter Tryz.func188, Tryz.ntmps188
    go_wp2_with (go_at_call 186; refine C.out.mono ?_; rintro e w' ⟨rfl, rfl⟩)
    go_ret
    exact ⟨by simp, rfl⟩
  | false =>
    rw [hb] at c
    have C := Lib.hid c
    clear c hb
    go_enter Tryz.func188, Tryz.ntmps188
    go_wp2_with (go_at_call 186; refine C.out.mono ?_; rintro e w' ⟨rfl, rfl⟩)
    go_ret
    exact ⟨by simp, rfl⟩
set_option maxHeartbeats 1000000 in
theorem trim140 (s t : ByteArray) (w : World) : Calls Tryz.prog 140 #[.string s, .string t] w fun e w' => e = .returned (.string (trimB s t)) ∧ w = w' := by
  have c := Lib.hid (trim188 s t w)
  go_enter Tryz.func140, Tryz.ntmps140
  go_wp2_with (go_at_call 188; refine c.out.mono ?_; rintro e w' ⟨rfl, rfl⟩)
  go_ret
  exact ⟨rfl, rfl⟩
/-- What is trimmed off an odd text stands in numbers: the rest is odd. -/
theorem trim_odd {s p : ByteArray} (hp : badL p.data.toList = false) (h : Odd s.data.toList) : Odd (trimB s p).data.toList ∧ (trimB s p).size ≤ s.size := by
  unfold trimB
  cases hb : preB s p with
  | false => simp; exact h
  | true =>
    simp only [if_true]
    unfold preB at hb
    simp only [Bool.and_eq_true, decide_eq_true_eq, beq_iff_eq] at hb
    have he : s.data.toList = p.data.toList ++ (s.extract p.size s.size).data.toList := by
      have h1 : (s.extract p.size s.size).data.toList = s.data.toList.drop p.size := by
        rw [Lib.extract_data]
        first | rfl | (apply List.take_of_length_le; simp)
      rw [h1, ← hb.2, List.take_append_drop]
    refine ⟨h.sub (fun b hb => by rw [he]; exact List.mem_append_right _ hb) (fun hbad => ?_), by rw [ByteArray.size_extract]; omega⟩
    rw [he, badL_append, hp] at hbad
    simpa using hbad

theorem trim_keep {s p : ByteArray} {c : UInt8} (hc : c ∈ s.data.toList) (hp : ¬ c ∈ p.data.toList) : c ∈ (trimB s p).data.toList := by
  unfold trimB
  cases hb : preB s p with
  | false => simpa using hc
  | true =>
    simp only [if_true]
    unfold preB at hb
    simp only [Bool.and_eq_true, decide_eq_true_eq, beq_iff_eq] at hb
    have he : s.data.toList = p.data.toList ++ (s.extract p.size s.size).data.toList := by
      have h1 : (s.extract p.size s.size).data.toList = s.data.toList.drop p.size := by
        rw [Lib.extract_data]
        first | rfl | (apply List.take_of_length_le; simp)
      rw [h1, ← hb.2, List.take_append_drop]
    rw [he, List.mem_append] at hc
    rcases hc with h | h
    · exact absurd h hp
    · exact h

/-- How often a text stands in another one, from a place on. -/
def cntF (s t : ByteArray) : Nat → Nat → Nat
  | 0, _ => 0
  | f + 1, k => if k + t.size ≤ s.size then (if (s.extract k (k + t.size)).toList == t.toList then 1 + cntF s t f (k + t.size) else cntF s t f (k + 1)) else 0
def cnt (s t : ByteArray) : Nat := cntF s t (s.size + 1) 0
theorem extract_at {s t : ByteArray} {k : Nat} (h : ((s.extract k (k + t.size)).toList == t.toList) = true) : (s.data.toList.drop k).take t.size = t.data.toList := by
  have := beq_iff_eq.1 h
  rw [Lib.toList_data, Lib.toList_data, Lib.extract_data, show k + t.size - k = t.size by omega] at this
  exact this
theorem cntF_pos (s t : ByteArray) : ∀ f k, 0 < cntF s t f k → ∃ i, i + t.size ≤ s.size ∧ (s.data.toList.drop i).take t.size = t.data.toList
  | 0, k, h => by unfold cntF at h; omega
  | f + 1, k, h => by
    unfold cntF at h
    split at h
    · rename_i h1
      split at h
      · rename_i h2
        exact ⟨k, h1, extract_at h2⟩
      · exact cntF_pos s t f (k + 1) h
    · omega
theorem cntF_le (s t : ByteArray) : ∀ f k, cntF s t f k ≤ f
  | 0, k => by unfold cntF; omega
  | f + 1, k => by
    unfold cntF
    have h1 := cntF_le s t f (k + t.size)
    have h2 := cntF_le s t f (k + 1)
    split
    · split <;> omega
    · omega
/-- A text of one byte that stands in another one: its byte does. -/
theorem cnt_mem {s : ByteArray} {c : UInt8} (h : 0 < cnt s ⟨#[c]⟩) : c ∈ s.data.toList := by
  obtain ⟨i, -, h2⟩ := cntF_pos s ⟨#[c]⟩ _ _ h
  have h3 : (s.data.toList.drop i).take 1 = [c] := h2
  exact List.mem_of_mem_drop (List.mem_of_mem_take (by rw [h3]; exact List.mem_singleton.2 rfl))
set_option maxHeartbeats 4000000 in
theorem count138 (s t : ByteArray) (w : World) (hs : s.size ≤ 4611686018427387904) (ht : 0 < t.size) (ht2 : t.size ≤ 1000) : Calls Tryz.prog 138 #[.string s, .string t] w fun e w' => e = .returned (.int .i64 (cnt s t)) ∧ w = w' := by
  have z0 : ((t.size : Int) == 0) = false := by rw [beq_eq_false_iff_ne]; omega
  obtain ⟨C, hC⟩ : ∃ C, cnt s t = C := ⟨_, rfl⟩
  have HC := Lib.hid hC
  rw [hC]
  clear hC
  go_enter Tryz.func138, Tryz.ntmps138
  go_wp2_with fail
  go_loop [5, 6] (fun n i => ∃ k m f : Nat, k ≤ s.size + t.size ∧ m ≤ k ∧ i = .int .i64 k ∧ n = .int .i64 m ∧ s.size + 1 ≤ k + f ∧ Hid (m + cntF s t f k = C)) (fun _ i => s.size + t.size + 1 - (intOf i).toNat)
  case atStart => exact ⟨0, 0, s.size + 1, by omega, by omega, rfl, rfl, by omega, Lib.hid (by rw [← HC.out]; exact Nat.zero_add _)⟩
  case round =>
    obtain ⟨k, m, f, hk, hm, rfl, rfl, hf, HF⟩ := hrel
    by_cases hlt : k + t.size ≤ s.size
    · have hi : (k : Int) + (t.size : Int) ≤ (s.size : Int) := by omega
      obtain ⟨g, rfl⟩ : ∃ g, f = g + 1 := ⟨f - 1, by omega⟩
      cases heq : ((s.extract k (k + t.size)).toList == t.toList) with
      | true =>
        have HF2 : Hid (m + 1 + cntF s t g (k + t.size) = C) := Lib.hid (by
          have h1 := HF.out
          rw [cntF, if_pos hlt, if_pos heq] at h1
          omega)
        go_wp2_with fail
        go_round
        case rel => exact ⟨k + t.size, m + 1, g, by omega, by omega, by go_num, by go_num, by omega, HF2⟩
        case measure => simp [intOf]; omega
      | false =>
        have HF2 : Hid (m + cntF s t g (k + 1) = C) := Lib.hid (by
          have h1 := HF.out
          rw [cntF, if_pos hlt, if_neg (by rw [heq]; decide)] at h1
          exact h1)
        go_wp2_with fail
        go_round
        case rel => exact ⟨k + 1, m, g, by omega, by omega, by go_num, rfl, by omega, HF2⟩
        case measure => simp [intOf]; omega
    · have hi : ¬ (k : Int) + (t.size : Int) ≤ (s.size : Int) := by omega
      have HM : Hid (m = C) := Lib.hid (by
        have h1 := HF.out
        cases f with
        | zero => rw [cntF] at h1; exact h1
        | succ g => rw [cntF, if_neg hlt] at h1; exact h1)
      go_wp2_with fail
      go_ret
      exact ⟨by rw [HM.out]; rfl, rfl⟩

/-- Where a text begins, or -1. -/
def IdxEnd (s t : ByteArray) (e : Ending) : Prop := (e = .returned (.int .i64 (-1)) ∧ ∀ i, i + t.size ≤ s.size → (s.data.toList.drop i).take t.size ≠ t.data.toList) ∨ ∃ i : Nat, e = .returned (.int .i64 i) ∧ i + t.size ≤ s.size ∧ (s.data.toList.drop i).take t.size = t.data.toList
set_option maxHeartbeats 4000000 in
theorem index187 (s t : ByteArray) (w : World) (hs : s.size ≤ 4611686018427387904) (ht2 : t.size ≤ 1000) : Calls Tryz.prog 187 #[.string s, .string t] w fun e w' => IdxEnd s t e ∧ w = w' := by
  go_enter Tryz.func187, Tryz.ntmps187
  go_wp2_with fail
  go_loop [5] (fun i => ∃ k : Nat, k ≤ s.size + 1 ∧ i = .int .i64 k ∧ Hid (∀ j, j < k → (s.data.toList.drop j).take t.size ≠ t.data.toList)) (fun i => s.size + 2 - (intOf i).toNat)
  case atStart => exact ⟨0, by omega, rfl, Lib.hid (fun j hj => by omega)⟩
  case round =>
    obtain ⟨k, hk, rfl, HK⟩ := hrel
    by_cases hlt : k + t.size ≤ s.size
    · have hi : (k : Int) + (t.size : Int) ≤ (s.size : Int) := by omega
      cases heq : ((s.extract k (k + t.size)).toList == t.toList) with
      | true =>
        have he : (s.data.toList.drop k).take t.size = t.data.toList := by
          have := beq_iff_eq.1 heq
          rw [Lib.toList_data, Lib.toList_data, Lib.extract_data, show k + t.size - k = t.size by omega] at this
          exact this
        have HE := Lib.hid he
        clear he
        go_wp2_with fail
        go_ret
        exact ⟨.inr ⟨k, rfl, hlt, HE.out⟩, rfl⟩
      | false =>
        have HK2 : Hid (∀ j, j < k + 1 → (s.data.toList.drop j).take t.size ≠ t.data.toList) := Lib.hid (fun j hj => by
          rcases Nat.lt_or_ge j k with h | h
          · exact HK.out j h
          · obtain rfl : j = k := by omega
            intro h2
            have h3 : ((s.extract j (j + t.size)).toList == t.toList) = true := by
              rw [beq_iff_eq, Lib.toList_data, Lib.toList_data, Lib.extract_data, show j + t.size - j = t.size by omega]
              exact h2
            rw [heq] at h3
            cases h3)
        go_wp2_with fail
        go_round
        case rel => exact ⟨k + 1, by omega, by go_num, HK2⟩
        case measure => simp [intOf]; omega
    · have hi : ¬ (k : Int) + (t.size : Int) ≤ (s.size : Int) := by omega
      go_wp2_with fail
      go_ret
      exact ⟨.inl ⟨rfl, fun i hi => HK.out i (by omega)⟩, rfl⟩

def u8sL (l : List UInt8) : List Value := l.map fun b => .int .u8 b.toNat
theorem u8sL_append (a b : List UInt8) : u8sL (a ++ b) = u8sL a ++ u8sL b := by unfold u8sL; rw [List.map_append]
theorem Tinfo5 : (Tryz.prog.info? 5).map (fun i => (i.zero, i.size, i.bytes)) = some (some (.int .u8 0), 1, 1) := by kernel_rfl

/-- What zzReplaceAll leaves of an odd text of which the underscores are struck. -/
def RepEnd (s : ByteArray) (e : Ending) : Prop := ∃ r : ByteArray, e = .returned (.string r) ∧ Odd r.data.toList ∧ r.size ≤ s.size ∧ ∀ c ∈ s.data.toList, c.toNat ≠ 95 → c ∈ r.data.toList

theorem strike {l r : List UInt8} {i : Nat} (h : Odd (l ++ r)) (ht : (r.drop i).take 1 = [95]) : Odd ((l ++ r.take i) ++ r.drop (i + 1)) := by
  have hr : r = r.take i ++ (95 :: r.drop (i + 1)) := by
    have h1 : r.drop i = 95 :: r.drop (i + 1) := by
      cases hd : r.drop i with
      | nil => rw [hd] at ht; simp at ht
      | cons x t =>
        rw [hd] at ht
        simp at ht
        have : r.drop (i + 1) = t := by rw [← List.tail_drop, hd]; rfl
        rw [this, ht]
    rw [← h1, List.take_append_drop]
  refine h.sub (fun b hb => ?_) (fun hb => ?_)
  · rw [hr]
    simp only [List.mem_append, List.mem_cons] at hb ⊢
    rcases hb with (hb | hb) | hb
    · exact .inl hb
    · exact .inr (.inl hb)
    · exact .inr (.inr (.inr hb))
  · rw [hr] at hb
    rw [badL_append, badL_append] at *
    have h95 : badL (95 :: r.drop (i + 1)) = badL (r.drop (i + 1)) := by
      show (!okb (95 : UInt8).toNat || _) = _
      rw [show okb (95 : UInt8).toNat = true by decide]
      rfl
    rw [h95] at hb
    rw [← hb]
    cases badL l <;> cases badL (r.take i) <;> rfl

theorem strike_keep {l r : List UInt8} {i : Nat} (ht : (r.drop i).take 1 = [95]) {c : UInt8} (hc : c ∈ l ++ r) (h95 : c.toNat ≠ 95) : c ∈ (l ++ r.take i) ++ r.drop (i + 1) := by
  have hr : r = r.take i ++ (95 :: r.drop (i + 1)) := by
    have h1 : r.drop i = 95 :: r.drop (i + 1) := by
      cases hd : r.drop i with
      | nil => rw [hd] at ht; simp at ht
      | cons x t =>
        rw [hd] at ht
        simp at ht
        have : r.drop (i + 1) = t := by rw [← List.tail_drop, hd]; rfl
        rw [this, ht]
    rw [← h1, List.take_append_drop]
  rw [hr] at hc
  simp only [List.mem_append, List.mem_cons] at hc ⊢
  rcases hc with h | h | h | h
  · exact .inl (.inl h)
  · exact .inl (.inr h)
  · exact absurd (by rw [h]; rfl) h95
  · exact .inr h

set_option maxRecDepth 100000 in
set_option maxHeartbeats 4000000 in
theorem replace139 (s : ByteArray) (w : World) (hs : s.size ≤ 4294967296) (hodd : Odd s.data.toList) : Calls Tryz.prog 139 #[.string s, .string ⟨#[95]⟩, .string ⟨#[]⟩] w fun e w' => RepEnd s e ∧ Below w.heap.size w w' := by
  obtain ⟨i0, hi, hz0, hz1, hz2⟩ := info_parts Tinfo5
  have HS : Hid (∀ r : ByteArray, r.size ≤ s.size → ∀ w, Calls Tryz.prog 187 #[.string r, .string ⟨#[95]⟩] w fun e w' => IdxEnd r ⟨#[95]⟩ e ∧ w = w') := Lib.hid (fun r hr w => index187 r _ w (by omega) (by decide))
  have HO := Lib.hid hodd
  clear hodd
  go_enter Tryz.func139, Tryz.ntmps139
  go_wp2_with fail
  go_loopw [0, 7] (fun a v wr => ∃ (r : ByteArray) (l : List UInt8) (n : Nat), a = .string r ∧ l.length = n ∧ r.size + n ≤ s.size ∧ Hid (wr.ownsRow w.heap.size 5 1 v n (u8sL l)) ∧ Hid (Odd (l ++ r.data.toList) ∧ ∀ c ∈ s.data.toList, c.toNat ≠ 95 → c ∈ l ++ r.data.toList) ∧ Hid (Below w.heap.size w wr)) (fun a _ _ => match a with | .string r => r.size | _ => 0)
  case atStart => exact ⟨s, [], 0, rfl, rfl, by omega, Lib.hid (World.ownsRow_nil _ _ _ _), Lib.hid ⟨HO.out, fun c hc _ => hc⟩, Lib.hid (Below.refl _ _)⟩
  case round =>
    obtain ⟨r, l, n, rfl, hl, hsz, HOWN, HODD, HB⟩ := hrel
    have HLN := Lib.hid hl
    have hgr := HB.out.size
    clear hl
    go_wp2_with fail
    refine (HS.out r (by omega) _).mono ?_
    rintro e w' ⟨hidx, rfl⟩
    have hz95 : (⟨#[95]⟩ : ByteArray).size = 1 := rfl
    have hz0' : (⟨#[]⟩ : ByteArray).size = 0 := rfl
    rcases hidx with ⟨rfl, -⟩ | ⟨i, rfl, hile, hite⟩
    · go_wp2_with (at_builtin; refine Lib.wpList_append_own_string _ rfl (.tmp 14) (.tmp 15) 128 9 rfl w.heap.size 5 i0 Tryz.underlying128 Tryz.underlying9 hi hz0 hz1 hz2 _ _ _ rfl HOWN.out r rfl (by unfold maxLen; omega) (by omega) (by omega) ?_)
      intro v' w2 hown hgrow _
      have hne : l ++ r.data.toList ≠ [] := HODD.out.1.ne
      have hlen : (l ++ r.data.toList).length = n + r.size := by rw [List.length_append, HLN.out]; simp
      have hpos : 0 < n + r.size := by rw [← hlen]; exact List.length_pos_iff.2 hne
      obtain ⟨m, hm⟩ : ∃ m, n + r.size = m + 1 := ⟨n + r.size - 1, by omega⟩
      have hx : u8sL l ++ Lib.strCells r = u8sL (l ++ r.data.toList) := by rw [u8sL_append]; rfl
      rw [hx] at hown
      have hown' := hown
      rw [hm] at hown'
      obtain ⟨g, c, hv⟩ := ownsRow_slice hown'
      have hconv : (convert 128 9 v').run Tryz.prog w2 = .ok (.string ⟨(l ++ r.data.toList).toArray⟩) w2 := by
        have := run_convert_bytes_back (P := Tryz.prog) w2 128 9 5 ⟨g, 0, none⟩ c (l ++ r.data.toList) Tryz.underlying128 Tryz.underlying5 Tryz.underlying9 (fun j hj => by
          rw [hv] at hown
          refine hown.cells rfl j _ ?_
          unfold u8sL
          rw [List.getElem?_map, List.getElem?_eq_getElem hj]; rfl)
        rw [hlen, hm] at this
        rw [hv]
        exact this
      have HB2 : Hid (Below w.heap.size w w2) := Lib.hid (HB.out.trans ((Kept.refl (fun k => w.heap.size ≤ k) wr).grown hgrow (fun k hk => (World.ownsRow.lt HOWN.out k hk).1) |>.below (by omega) (fun k hk => by omega)))
      clear hown hown' hgrow hx hm hpos hv hne hlen
      go_wp2_with fail
      go_ret
      refine ⟨⟨⟨(l ++ r.data.toList).toArray⟩, rfl, HODD.out.1, ?_, HODD.out.2⟩, HB2.out⟩
      show (l ++ r.data.toList).toArray.size ≤ s.size
      rw [List.size_toArray, List.length_append, HLN.out]
      simp
      omega
    · have hs1 : (i : Int) + 1 ≤ (r.size : Int) := by omega
      have hi0 : (i : Int) ≤ (r.size : Int) := by omega
      have HITE := Lib.hid hite
      clear hite
      have hsx : (r.extract 0 i).size = i := by rw [ByteArray.size_extract]; omega
      have HSX := Lib.hid hsx
      clear hsx
      go_wp2_with (first
        | (at_builtin; refine Lib.wpList_append_own_string _ rfl (.tmp 18) (.tmp 21) 128 9 rfl w.heap.size 5 i0 Tryz.underlying128 Tryz.underlying9 hi hz0 hz1 hz2 _ _ _ rfl HOWN.out (r.extract 0 i) rfl (by rw [HSX.out]; unfold maxLen; omega) (by rw [HSX.out]; omega) (by omega) ?_; intro v1 w2 hown hgrow _; have HOWN2 := Lib.hid hown; have HGR := Lib.hid hgrow; have hsz2 := hgrow.size; clear hown hgrow)
        | (at_builtin; refine Lib.wpList_append_own_string _ rfl (.tmp 22) (.tmp 23) 128 9 rfl w.heap.size 5 i0 Tryz.underlying128 Tryz.underlying9 hi hz0 hz1 hz2 _ _ _ rfl HOWN2.out ⟨#[]⟩ rfl (by rw [HSX.out]; unfold maxLen; omega) (by rw [HSX.out]; omega) (by omega) ?_; intro v2 w3 hown hgrow _; have HOWN3 := Lib.hid hown; have HGR3 := Lib.hid hgrow; have hsz3 := hgrow.size; clear hown hgrow))
      go_roundw
      case rel =>
        have hexr : (r.extract (i + 1) r.size).data.toList = r.data.toList.drop (i + 1) := by
          rw [Lib.extract_data]
          apply List.take_of_length_le
          simp
        have hexl : (r.extract 0 i).data.toList = r.data.toList.take i := by
          rw [Lib.extract_data]
          simp
        refine ⟨r.extract (i + 1) r.size, l ++ r.data.toList.take i, n + i, ?_, ?_, ?_, Lib.hid ?_, Lib.hid ?_, Lib.hid ?_⟩
        · first | rfl | (congr 2)
        · rw [List.length_append, HLN.out, List.length_take]
          simp
          omega
        · rw [ByteArray.size_extract]; omega
        · have h3 := HOWN3.out
          rw [HSX.out] at h3
          have e1 : u8sL l ++ Lib.strCells (r.extract 0 i) ++ Lib.strCells ⟨#[]⟩ = u8sL (l ++ r.data.toList.take i) := by
            rw [u8sL_append, ← hexl]
            simp [Lib.strCells, u8sL]
          rw [e1] at h3
          exact h3
        · rw [hexr]
          exact ⟨strike HODD.out.1 (by rw [← hz95]; exact HITE.out), fun c hc h95 => strike_keep (by rw [← hz95]; exact HITE.out) (HODD.out.2 c hc h95) h95⟩
        · have k1 : Kept (fun k => w.heap.size ≤ k) wr w3 := ((Kept.refl _ wr).grown HGR.out (fun k hk => (World.ownsRow.lt HOWN.out k hk).1)).grown HGR3.out (fun k hk => (World.ownsRow.lt HOWN2.out k hk).1)
          exact HB.out.trans (k1.below (by omega) (fun k hk => by omega))
      case measure =>
        simp only [ByteArray.size_extract]
        omega
set_option maxRecDepth 100000 in
set_option maxHeartbeats 4000000 in
/-- A text without underscores stays as it is. -/
theorem replace139n (s : ByteArray) (w : World) (hs : s.size ≤ 4294967296) (hp : 0 < s.size) (hno : ∀ i, i + 1 ≤ s.size → (s.data.toList.drop i).take 1 ≠ [95]) : Calls Tryz.prog 139 #[.string s, .string ⟨#[95]⟩, .string ⟨#[]⟩] w fun e w' => e = .returned (.string s) ∧ Below w.heap.size w w' := by
  obtain ⟨i0, hi, hz0, hz1, hz2⟩ := info_parts Tinfo5
  have HS : Hid (Calls Tryz.prog 187 #[.string s, .string ⟨#[95]⟩] w fun e w' => e = .returned (.int .i64 (-1)) ∧ w = w') := Lib.hid ((index187 s ⟨#[95]⟩ w (by omega) (by decide)).mono (by
    rintro e w' ⟨h | ⟨i, -, h1, h2⟩, rfl⟩
    · exact ⟨h.1, rfl⟩
    · exact absurd h2 (hno i h1)))
  clear hno
  have HOWN : Hid (w.ownsRow w.heap.size 5 1 (.slice none 0 0) 0 []) := Lib.hid (World.ownsRow_nil _ _ _ _)
  go_enter Tryz.func139, Tryz.ntmps139
  go_wp2_with fail
  go_loopw [0, 7] (fun a v wr => a = .string s ∧ v = .slice none 0 0 ∧ w = wr) (fun _ _ _ => 0)
  case atStart => exact ⟨rfl, rfl, rfl⟩
  case round =>
    obtain ⟨rfl, rfl, rfl⟩ := hrel
    go_wp2_with fail
    refine HS.out.mono ?_
    rintro e w' ⟨rfl, rfl⟩
    go_wp2_with (at_builtin; refine Lib.wpList_append_own_string _ rfl (.tmp 14) (.tmp 15) 128 9 rfl w.heap.size 5 i0 Tryz.underlying128 Tryz.underlying9 hi hz0 hz1 hz2 _ _ _ rfl HOWN.out s rfl (by unfold maxLen; omega) (by omega) (by omega) ?_)
    intro v' w2 hown hgrow _
    obtain ⟨m, hm⟩ : ∃ m, s.size = m + 1 := ⟨s.size - 1, by omega⟩
    change w2.ownsRow w.heap.size 5 1 v' s.size (u8sL s.data.toList) at hown
    have hown' := hown
    rw [hm] at hown'
    obtain ⟨g, c, hv⟩ := ownsRow_slice hown'
    have hconv : (convert 128 9 v').run Tryz.prog w2 = .ok (.string ⟨s.data.toList.toArray⟩) w2 := by
      have := run_convert_bytes_back (P := Tryz.prog) w2 128 9 5 ⟨g, 0, none⟩ c s.data.toList Tryz.underlying128 Tryz.underlying5 Tryz.underlying9 (fun j hj => by
        rw [hv] at hown
        refine hown.cells rfl j _ ?_
        unfold u8sL
        rw [List.getElem?_map, List.getElem?_eq_getElem hj]; rfl)
      rw [show s.data.toList.length = m + 1 by simp; omega] at this
      rw [hv]
      exact this
    have HB2 : Hid (Below w.heap.size w w2) := Lib.hid ((Kept.refl (fun k => w.heap.size ≤ k) w).grown hgrow (fun k hk => (World.ownsRow.lt HOWN.out k hk).1) |>.below (by omega) (fun k hk => by omega))
    clear hown hown' hgrow hm hv
    go_wp2_with fail
    go_ret
    exact ⟨rfl, HB2.out⟩

/-- Does a text end with another one? -/
def sufB (s p : ByteArray) : Bool := decide (p.size ≤ s.size) && ((s.extract (s.size - p.size) s.size).toList == p.toList)
set_option maxHeartbeats 4000000 in
theorem hasSuf191 (s t : ByteArray) (w : World) (hs : s.size ≤ 4294967296) : Calls Tryz.prog 191 #[.string s, .string t] w fun e w' => e = .returned (.bool (sufB s t)) ∧ w = w' := by
  unfold sufB
  by_cases h : t.size ≤ s.size
  · obtain ⟨n, hn⟩ : ∃ n, s.size = n + t.size := ⟨s.size - t.size, by omega⟩
    have hz : (t.size : Int) ≤ (s.size : Int) := by omega
    have hz2 : (s.size : Int) - (t.size : Int) = (n : Int) := by omega
    have hz3 : (n : Int) ≤ (s.size : Int) := by omega
    rw [decide_eq_true h, Bool.true_and, show s.size - t.size = n by omega]
    clear hn
    go_enter Tryz.func191, Tryz.ntmps191
    go_wp2
    go_ret
    exact ⟨rfl, rfl⟩
  · have hz : ¬ (t.size : Int) ≤ (s.size : Int) := by omega
    rw [decide_eq_false h, Bool.false_and]
    go_enter Tryz.func191, Tryz.ntmps191
    go_wp2
    go_ret
    exact ⟨rfl, rfl⟩
set_option maxHeartbeats 1000000 in
theorem hasSuf145 (s t : ByteArray) (w : World) (hs : s.size ≤ 4294967296) : Calls Tryz.prog 145 #[.string s, .string t] w fun e w' => e = .returned (.bool (sufB s t)) ∧ w = w' := by
  have c := Lib.hid (hasSuf191 s t w hs)
  go_enter Tryz.func145, Tryz.ntmps145
  go_wp2_with (go_at_call 191; refine c.out.mono ?_; rintro e w' ⟨rfl, rfl⟩)
  go_ret
  exact ⟨rfl, rfl⟩
end Go.Proofs.YtpjfmfaijcbopaaGreatDoor
