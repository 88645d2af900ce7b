/- internal/strconv.prefixIsLessThan. -/
import Derived.Test.YtpjfmfaijcbopaaGreatDoorDc
namespace Go.Proofs.YtpjfmfaijcbopaaGreatDoor
open Go.RowKit Go.Proofs

/-- Is the beginning of a text of digits less than another? -/
def pl : List Nat → List Nat → Bool
  | _, [] => false
  | [], _ :: _ => true
  | b :: bs, c :: cs => if b = c then pl bs cs else decide (b < c)
def bytesN (s : ByteArray) : List Nat := s.data.toList.map UInt8.toNat
theorem bytesN_len (s : ByteArray) : (bytesN s).length = s.size := by simp [bytesN]
theorem bytesN_get (s : ByteArray) (i : Nat) (h : i < (bytesN s).length) : (bytesN s)[i] = by' s i := by
  have h' : i < s.data.toList.length := by simpa [bytesN] using h
  have : (bytesN s)[i]? = some (by' s i) := by
    unfold bytesN by'
    rw [List.getElem?_map, List.getD, List.getElem?_eq_getElem h']
    rfl
  exact (List.getElem?_eq_some_iff.1 this).2
theorem pl_cons (b : Nat) (bs : List Nat) (c : Nat) (cs : List Nat) : pl (b :: bs) (c :: cs) = if b = c then pl bs cs else decide (b < c) := rfl
theorem pl_nil_cons (c : Nat) (cs : List Nat) : pl [] (c :: cs) = true := rfl
theorem pl_nil (D : List Nat) : pl D [] = false := by cases D <;> rfl
set_option maxRecDepth 100000 in
set_option maxHeartbeats 4000000 in
theorem prefix254 (b cap : Nat) (D : List Nat) (s : ByteArray) (w : World) (hD : ∀ i, i < D.length → w.cell? ⟨b, i, none⟩ = some (.int .u8 (D.getD i 0))) (hs : s.size ≤ 1000) :
    Calls Tryz.prog 254 #[.slice (some ⟨b, 0, none⟩) D.length cap, .string s] w fun e w' => e = .returned (.bool (pl D (bytesN s))) ∧ ∃ m, w' = w.drewN m := by
  obtain ⟨ans, hans⟩ : ∃ a, pl D (bytesN s) = a := ⟨_, rfl⟩
  rw [hans]
  have HA := Lib.hid hans
  have HD := Lib.hid hD
  obtain ⟨n, hnn⟩ : ∃ n, D.length = n := ⟨_, rfl⟩
  have HN := Lib.hid hnn
  rw [hnn]
  clear hans hD hnn
  have HI : Hid (∀ (k : Nat) (hk : k < s.size) (w : World), (Instr.index 9 (.string s) (.int .i64 k)).run Tryz.prog w = .ok (.int .u8 (by' s k)) w) := Lib.hid (idx_run s)
  go_enter Tryz.func254, Tryz.ntmps254
  go_wp2_with fail
  go_loopw [5] (fun i wr => ∃ k : Nat, k ≤ s.size ∧ i = .int .i64 k ∧ Hid (pl D (bytesN s) = pl (D.drop k) ((bytesN s).drop k)) ∧ Hid (∃ m, wr = w.drewN m)) (fun i _ => s.size - (intOf i).toNat)
  case atStart => exact ⟨0, by omega, rfl, Lib.hid rfl, Lib.hid ⟨0, rfl⟩⟩
  case round =>
    obtain ⟨k, hk, rfl, HP, HW⟩ := hrel
    by_cases hlt : k < s.size
    · have hi : (k : Int) < (s.size : Int) := by omega
      have hCd : (bytesN s).drop k = by' s k :: (bytesN s).drop (k + 1) := by
        rw [List.drop_eq_getElem_cons (by rw [bytesN_len]; exact hlt), bytesN_get]
      by_cases hlt2 : k < n
      · have hDd : D.drop k = D.getD k 0 :: D.drop (k + 1) := by
          have hl : k < D.length := by rw [HN.out]; exact hlt2
          rw [List.drop_eq_getElem_cons hl, List.getD, List.getElem?_eq_getElem hl]; rfl
        have hp := HP.out
        rw [hCd, hDd] at hp
        have c1 : wr.cell? ⟨b, k, none⟩ = some (.int .u8 (D.getD k 0)) := by
          obtain ⟨m, rfl⟩ := HW.out
          exact HD.out k (by rw [HN.out]; exact hlt2)
        have hix := fun w => HI.out k hlt w
        obtain ⟨x, hx⟩ : ∃ x, D.getD k 0 = x := ⟨_, rfl⟩
        obtain ⟨y, hy⟩ : ∃ y, by' s k = y := ⟨_, rfl⟩
        rw [hx] at c1 hp
        rw [hy] at hix hp
        rw [pl_cons] at hp
        have hcn : ¬ ((n : Int) ≤ (k : Int)) := by omega
        clear hx hy hCd hDd
        by_cases hxy : x = y
        · subst hxy
          rw [if_pos rfl] at hp
          have HP2 := Lib.hid hp
          clear hp
          go_wp2_with fail
          go_quiet (fail)
          have HW2 : Hid (∃ m, wr.drewN nq = w.drewN m) := Lib.hid (by obtain ⟨m, rfl⟩ := HW.out; exact ⟨m + nq, World.drewN_drewN _ _ _⟩)
          generalize wr.drewN nq = w2 at *
          go_wp2_with fail
          go_roundw
          case rel => exact ⟨k + 1, by omega, by go_num, Lib.hid HP2.out, Lib.hid HW2.out⟩
          case measure => simp [intOf]; omega
        · rw [if_neg hxy] at hp
          have HP2 := Lib.hid hp
          clear hp
          have hne : ¬ (x : Int) = (y : Int) := by omega
          go_wp2_with fail
          go_quiet (fail)
          have HW2 : Hid (∃ m, wr.drewN nq = w.drewN m) := Lib.hid (by obtain ⟨m, rfl⟩ := HW.out; exact ⟨m + nq, World.drewN_drewN _ _ _⟩)
          have c2 : (wr.drewN nq).cell? ⟨b, k, none⟩ = some (.int .u8 x) := c1
          generalize wr.drewN nq = w2 at *
          go_wp2_with fail
          go_quiet (fail)
          have HW3 : Hid (∃ m, w2.drewN nq = w.drewN m) := Lib.hid (by obtain ⟨m, rfl⟩ := HW2.out; exact ⟨_, World.drewN_drewN _ _ _⟩)
          generalize w2.drewN nq = w3 at *
          go_wp2_with fail
          go_ret
          refine ⟨?_, HW3.out⟩
          rw [← HA.out, HP2.out]
          rfl
      · have hDd : D.drop k = [] := List.drop_of_length_le (by rw [HN.out]; omega)
        have hp := HP.out
        rw [hCd, hDd] at hp
        rw [pl_nil_cons] at hp
        have ha : ans = true := HA.out.symm.trans hp
        subst ha
        clear hp
        go_wp2_with fail
        go_ret
        exact ⟨rfl, HW.out⟩
    · have hCd : (bytesN s).drop k = [] := List.drop_of_length_le (by rw [bytesN_len]; omega)
      have hp := HP.out
      rw [hCd] at hp
      have hp2 : pl (D.drop k) [] = false := by cases D.drop k <;> rfl
      have ha : ans = false := HA.out.symm.trans (hp.trans hp2)
      subst ha
      clear hp hp2
      go_wp2_with fail
      go_ret
      exact ⟨rfl, HW.out⟩
end Go.Proofs.YtpjfmfaijcbopaaGreatDoor
