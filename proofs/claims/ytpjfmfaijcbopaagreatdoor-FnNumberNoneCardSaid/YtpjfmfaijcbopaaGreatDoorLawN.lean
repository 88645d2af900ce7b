/- The law FnNumberNone. -/
import Derived.Test.YtpjfmfaijcbopaaGreatDoorTn
import Derived.Test.YtpjfmfaijcbopaaGreatDoorNl
import Derived.Test.YtpjfmfaijcbopaaGreatDoorLeft
namespace Go.Proofs.YtpjfmfaijcbopaaGreatDoor
open Go.RowKit Go.Proofs

theorem hasc_mem {s : ByteArray} {c : Nat} {b : UInt8} (hb : b ∈ s.data.toList) (h : b.toNat = c) : hasc s c s.size = true := by
  obtain ⟨i, hi, rfl⟩ := List.getElem_of_mem hb
  unfold hasc
  rw [List.any_eq_true]
  refine ⟨i, List.mem_range.2 (by simpa using hi), ?_⟩
  rw [beq_iff_eq]
  unfold by'
  rw [List.getD, List.getElem?_eq_getElem hi]
  exact h
theorem left_px {s : ByteArray} (h : leftB nName s = false) : pxL s.data.toList = false := by
  rw [leftB_n] at h
  cases hp : pxL s.data.toList with
  | false => rfl
  | true =>
    unfold pxL at hp
    rw [Bool.and_eq_true, List.any_eq_true, List.any_eq_true] at hp
    obtain ⟨⟨x, hx, h1⟩, ⟨y, hy, h2⟩⟩ := hp
    simp only [Bool.or_eq_true, beq_iff_eq] at h1 h2
    have e1 : (hasc s 112 s.size || hasc s 80 s.size) = true := by
      rcases h1 with h1 | h1
      · rw [hasc_mem hx h1, Bool.true_or]
      · rw [hasc_mem hx h1, Bool.or_true]
    have e2 : (hasc s 120 s.size || hasc s 88 s.size) = true := by
      rcases h2 with h2 | h2
      · rw [hasc_mem hy h2, Bool.true_or]
      · rw [hasc_mem hy h2, Bool.or_true]
    rw [e1, e2] at h
    cases h

set_option maxRecDepth 100000 in
set_option maxHeartbeats 8000000 in
theorem lawFnNumberNone (s : ByteArray) (w : World) (hs : s.size ≤ maxLen) (hT : ∃ b11 b10 bl, NumTabs w b11 b10 bl) :
    Calls Tryz.prog 7 #[.string s] w fun e w' => e = .returned (.bool true) ∧ Below w.heap.size w w' := by
  obtain ⟨b11, b10, bl, hN⟩ := hT
  have hfd : ∀ W : World, (Instr.field 39 (.agg #[.bool false, .string ⟨#[]⟩, .string ⟨#[]⟩, .int .i64 0, .int .i64 0, .int .u64 0, .float .f64 0]) 0).run Tryz.prog W = .ok (.bool false) W := fun W => by kernel_rfl
  unfold maxLen at hs
  by_cases b1 : s.size ≤ 2147483647
  · have z1 : ¬ ((2147483647 : Int) < (s.size : Int)) := by omega
    have C1 : Hid (∀ w, Calls Tryz.prog 20 #[.string ⟨#[70, 110, 78, 117, 109, 98, 101, 114, 78, 111, 110, 101]⟩, .string s] w fun e w' => e = .returned (.bool (leftB nName s)) ∧ Below w.heap.size w w') := Lib.hid (fun w => left20 nName s w (by omega) (.inr rfl))
    have C2 : Hid (∀ w, Calls Tryz.prog 21 #[.string s] w fun e w' => e = .returned (.bool (badL s.data.toList)) ∧ Below w.heap.size w w') := Lib.hid (noNumber s)
    have C3 : Hid (badL s.data.toList = true → pxL s.data.toList = false → ∀ w', NumTabs w' b11 b10 bl → Calls Tryz.prog 22 #[.string s] w' fun e w2 => e = .returned noNum ∧ Below w'.heap.size w' w2) := Lib.hid (fun h1 h2 w' h => tonum22 s w' b11 b10 bl b1 ⟨h1, h2⟩ h)
    have C4 := Lib.hid lives23
    have HPX : Hid (leftB nName s = false → pxL s.data.toList = false) := Lib.hid left_px
    have HN := Lib.hid hN
    generalize leftB nName s = lf at C1 HPX
    generalize pxL s.data.toList = px at C3 HPX
    generalize badL s.data.toList = bd at C2 C3
    clear hN hs b1
    cases lf
    · have h2 := HPX.out rfl
      subst h2
      go_enter Tryz.func7, Tryz.ntmps7
      go_wp2_with fail
      refine (C1.out _).mono ?_
      rintro e w1 ⟨rfl, hB⟩
      have HB := Lib.hid hB
      clear hB
      go_wp2_with fail
      refine (C2.out _).mono ?_
      rintro e w2 ⟨rfl, hB⟩
      have HB2 := Lib.hid (HB.out.trans (hB.mono HB.out.size))
      clear hB
      cases bd
      · go_wp2_with fail
        refine (C4.out _).mono ?_
        rintro e w3 ⟨rfl, hB⟩
        have HB3 := Lib.hid (HB2.out.trans (hB.mono HB2.out.size))
        clear hB
        go_wp2_with fail
        go_ret
        exact ⟨rfl, HB3.out⟩
      · have C5 := Lib.hid (C3.out (by first | rfl | trivial) (by first | rfl | trivial))
        unfold noNum at C5
        go_wp2_with fail
        refine (C5.out _ (HN.out.below HB2.out)).mono ?_
        rintro e w3 ⟨rfl, hB⟩
        have HB3 := Lib.hid (HB2.out.trans (hB.mono HB2.out.size))
        clear hB
        go_wp2_with fail
        refine (C4.out _).mono ?_
        rintro e w4 ⟨rfl, hB⟩
        have HB4 := Lib.hid (HB3.out.trans (hB.mono HB3.out.size))
        clear hB
        go_wp2_with fail
        go_ret
        exact ⟨rfl, HB4.out⟩
    · go_enter Tryz.func7, Tryz.ntmps7
      go_wp2_with fail
      refine (C1.out _).mono ?_
      rintro e w1 ⟨rfl, hB⟩
      have HB := Lib.hid hB
      clear hB
      go_wp2_with fail
      go_ret
      exact ⟨rfl, HB.out⟩
  · have z1 : (2147483647 : Int) < (s.size : Int) := by omega
    clear hN hs b1
    go_enter Tryz.func7, Tryz.ntmps7
    go_wp2_with fail
    go_ret
    exact ⟨rfl, Below.refl _ _⟩
end Go.Proofs.YtpjfmfaijcbopaaGreatDoor
