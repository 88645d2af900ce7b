/- Lemmas and contracts of functions of the program, for the statements of this seat: Obuf. -/
import Derived.Test.YtpjfmfaijcbopaaGreatDoorDocB
import Derived.Laws.Cover4
namespace Go.Proofs.YtpjfmfaijcbopaaGreatDoor
open Go.RowKit

theorem i32s_one (l : List Int) (r : Int) : i32s l ++ [.int .i32 r] = i32s (l ++ [r]) := by simp [i32s]

/-- What addOriginBuf leaves. -/
def Added (sb cb : Nat) (s : S) (base n : Nat) (l : List Int) (r : Int) (w w' : World) : Prop :=
  ∃ g cap nso, St w' sb cb { s with obuf := .slice (some ⟨g, 0, none⟩) (n + 1) cap, nso := nso } ∧
    w'.ownsRow base 21 1 (.slice (some ⟨g, 0, none⟩) (n + 1) cap) (n + 1) (i32s (l ++ [r])) ∧ Kept (fun k => k = cb ∨ some k = s.obuf.ownBlock) w w'

set_option maxHeartbeats 4000000 in
theorem addOrigin (sb cb : Nat) (s : S) (base n : Nat) (l : List Int) (r : Int) (w : World)
    (h : St w sb cb s) (hown : w.ownsRow base 21 1 s.obuf n (i32s l)) (hbase : base ≤ w.heap.size) (hn : n + 1 ≤ 1099511627776) :
    Calls Tryz.prog 113 #[.pointer (some ⟨cb, 0, none⟩), .int .i32 r] w fun e w' => e = .returned (.tuple #[]) ∧ Added sb cb s base n l r w w' := by
  obtain ⟨i0, hi, hz0, hz1, hz2⟩ := info_parts Tinfo21
  have hc6 := h.cx.cell 6 _ rfl
  have hcb := h.cx.lt
  have hs := h.sc.lt
  have HX := Lib.hid h
  have HA := Lib.hid (owns_apart hown h.cx (by decide))
  have HS := Lib.hid (owns_apart hown h.sc (by decide))
  clear h
  obtain ⟨v, hv⟩ : ∃ v, s.obuf = v := ⟨_, rfl⟩
  rw [hv] at hown hc6
  have HV := Lib.hid hv
  clear hv
  have tests : (r != 32) = false ∨ ((r != 32) = true ∧ (r != 9) = false) ∨ ((r != 32) = true ∧ (r != 9) = true) := by
    by_cases h1 : r = 32
    · exact .inl (by simp [h1])
    · by_cases h2 : r = 9
      · exact .inr (.inl (by simp [h2]))
      · exact .inr (.inr (by simp [h1, h2]))
  rcases tests with t1 | ⟨t1, t2⟩ | ⟨t1, t2⟩
  all_goals
    go_enter Tryz.func113, Tryz.ntmps113
    go_wp2_with (at_builtin; refine wpList_append_own _ rfl (.tmp 8) (.tmp 10) 27 rfl base 21 i0 (.int .i32 0) 1 4 Tryz.underlying27 hi hz0 hz1 hz2 rfl (by decide) _ _ _ rfl (hown.alloc _) ⟨w.heap.size, 0, none⟩ 1 1 [.int .i32 r] rfl rfl (cell_one_new _ _ _) (by intro u hu; simp at hu; subst hu; rfl) (by unfold maxLen; omega) (by omega) (by simp; omega) ?_)
    intro v' w1 hown' hgrow _
    have hst1 : St w1 sb cb s := by
      have h1 := (HX.out.sc.alloc (.cells #[.int .i32 r] 21))
      have h2 := (HX.out.cx.alloc (.cells #[.int .i32 r] 21))
      unfold Blk at h1 h2
      constructor
      · unfold Blk
        rw [hgrow.block sb (by simp; omega) (fun e => HS.out _ (by rw [HV.out]; exact e.symm) rfl)]
        exact h1
      · unfold Blk
        rw [hgrow.block cb (by simp; omega) (fun e => HA.out _ (by rw [HV.out]; exact e.symm) rfl)]
        exact h2
    have hk1 : Kept (fun k => k = cb ∨ some k = v.ownBlock) w w1 := ((Kept.refl _ w).alloc _).grown hgrow (fun k hk => .inr hk.symm)
    have hc71 := hst1.cx.cell 6 _ rfl
    have hf7 := hst1.cx.free 6
    have hc31 := hst1.cx.cell 3 _ rfl
    have hf3 := hst1.cx.free 3
    obtain ⟨g, cap, hv⟩ := ownsRow_slice hown'
    rw [i32s_one] at hown'
    rw [hv] at hown' ⊢
    have hgc : g ≠ cb := owns_ne hown' hst1.cx (by decide)
    have HX1 := Lib.hid hst1
    have HO := Lib.hid hown'
    have HK := Lib.hid hk1
    clear hst1 hown' hk1 hgrow hown HX HA
    go_wp2
    go_end0
    have HG : Hid (∀ i : Nat, (w1.setCell ⟨cb, 6, none⟩ (.slice (some ⟨g, 0, none⟩) (n + 1) cap)).ownsRow base 21 1 (.slice (some ⟨g, 0, none⟩) (n + 1) cap) (n + 1) (i32s (l ++ [r]))) :=
      Lib.hid (fun _ => owns_set HO.out ⟨cb, 6, none⟩ (fun k hk => by simp [Value.ownBlock] at hk; subst hk; exact fun h => hgc h.symm) _)
  · exact ⟨rfl, g, cap, s.nso, HX1.out.setCx 6 _ rfl rfl, HG.out 0, by rw [HV.out]; exact HK.out.setCell _ (.inl rfl) _⟩
  · exact ⟨rfl, g, cap, s.nso, HX1.out.setCx 6 _ rfl rfl, HG.out 0, by rw [HV.out]; exact HK.out.setCell _ (.inl rfl) _⟩
  · exact ⟨rfl, g, cap, ((n : Int) + 1), (HX1.out.setCx (s' := { s with obuf := .slice (some ⟨g, 0, none⟩) (n + 1) cap }) 6 _ rfl rfl).setCx 3 _ rfl rfl,
      owns_set (HG.out 0) ⟨cb, 3, none⟩ (fun k hk => by simp [Value.ownBlock] at hk; subst hk; exact fun h => hgc h.symm) _,
      by rw [HV.out]; exact (HK.out.setCell _ (.inl rfl) _).setCell _ (.inl rfl) _⟩
end Go.Proofs.YtpjfmfaijcbopaaGreatDoor
