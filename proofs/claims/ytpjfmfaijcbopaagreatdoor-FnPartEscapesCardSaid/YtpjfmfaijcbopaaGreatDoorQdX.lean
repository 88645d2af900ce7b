/- The loop of scanDoubleQuote: an escape of hex digits. -/
import Derived.Test.YtpjfmfaijcbopaaGreatDoorQb
namespace Go.Proofs.YtpjfmfaijcbopaaGreatDoor
open Go.RowKit Go.Proofs

theorem take2 (rs : List Int) (j : Nat) (h : j + 2 ≤ rs.length) : (rs.drop j).take 2 = [rs.getD j 0, rs.getD (j + 1) 0] := by
  rw [drop_at rs j (by omega), drop_at rs (j + 1) (by omega)]
  rfl
theorem take4 (rs : List Int) (j : Nat) (h : j + 4 ≤ rs.length) : (rs.drop j).take 4 = [rs.getD j 0, rs.getD (j + 1) 0, rs.getD (j + 2) 0, rs.getD (j + 3) 0] := by
  rw [drop_at rs j (by omega), drop_at rs (j + 1) (by omega), drop_at rs (j + 1 + 1) (by omega), drop_at rs (j + 1 + 1 + 1) (by omega)]
  rfl
theorem hexs_cons (a d : Int) (t : List Int) (v : Int) (h : hexs a (d :: t) = some v) : 0 ≤ hexv d ∧ hexs (a * 16 + hexv d) t = some v := by
  simp only [hexs] at h
  split at h
  · cases h
  · exact ⟨by omega, h⟩
theorem esc_x {ls : List Int} {j : Nat} {v : Int} {k : Nat} (hj : j + 1 < ls.length) (hd : ls.getD (j + 1) 0 = 120) (he : esc (ls.drop (j + 1)) = some (v, k)) :
    k = 3 ∧ j + 4 ≤ ls.length ∧ 0 ≤ hexv (ls.getD (j + 2) 0) ∧ 0 ≤ hexv (ls.getD (j + 3) 0) ∧ v = hexv (ls.getD (j + 2) 0) * 16 + hexv (ls.getD (j + 3) 0) := by
  rw [esc_long (m := 2) hj (by decide) (by rw [hd]; rfl)] at he
  by_cases hl : ls.length < j + 2 + 2
  · rw [if_pos hl] at he; cases he
  · rw [if_neg hl, take2 ls (j + 2) (by omega)] at he
    cases hx : hexs 0 [ls.getD (j + 2) 0, ls.getD (j + 2 + 1) 0] with
    | none => rw [hx] at he; cases he
    | some v' =>
      simp only [hx] at he
      by_cases hs : v' ≤ 1114111 ∧ (v' < 55296 ∨ 57343 < v')
      · rw [if_pos hs] at he
        cases he
        obtain ⟨h0, hx⟩ := hexs_cons _ _ _ _ hx
        obtain ⟨h1, hx⟩ := hexs_cons _ _ _ _ hx
        simp only [hexs, Option.some.injEq] at hx
        exact ⟨rfl, by omega, h0, h1, by rw [← hx]; simp⟩
      · rw [if_neg hs] at he; cases he
theorem esc_u {ls : List Int} {j : Nat} {v : Int} {k : Nat} (hj : j + 1 < ls.length) (hd : ls.getD (j + 1) 0 = 117) (he : esc (ls.drop (j + 1)) = some (v, k)) :
    k = 5 ∧ j + 6 ≤ ls.length ∧ 0 ≤ hexv (ls.getD (j + 2) 0) ∧ 0 ≤ hexv (ls.getD (j + 3) 0) ∧ 0 ≤ hexv (ls.getD (j + 4) 0) ∧ 0 ≤ hexv (ls.getD (j + 5) 0) ∧
      v = ((hexv (ls.getD (j + 2) 0) * 16 + hexv (ls.getD (j + 3) 0)) * 16 + hexv (ls.getD (j + 4) 0)) * 16 + hexv (ls.getD (j + 5) 0) ∧ (v < 55296 ∨ 57343 < v) := by
  rw [esc_long (m := 4) hj (by decide) (by rw [hd]; rfl)] at he
  by_cases hl : ls.length < j + 2 + 4
  · rw [if_pos hl] at he; cases he
  · rw [if_neg hl, take4 ls (j + 2) (by omega)] at he
    cases hx : hexs 0 [ls.getD (j + 2) 0, ls.getD (j + 2 + 1) 0, ls.getD (j + 2 + 2) 0, ls.getD (j + 2 + 3) 0] with
    | none => rw [hx] at he; cases he
    | some v' =>
      simp only [hx] at he
      by_cases hs : v' ≤ 1114111 ∧ (v' < 55296 ∨ 57343 < v')
      · rw [if_pos hs] at he
        cases he
        obtain ⟨h0, hx⟩ := hexs_cons _ _ _ _ hx
        obtain ⟨h1, hx⟩ := hexs_cons _ _ _ _ hx
        obtain ⟨h2, hx⟩ := hexs_cons _ _ _ _ hx
        obtain ⟨h3, hx⟩ := hexs_cons _ _ _ _ hx
        simp only [hexs, Option.some.injEq] at hx
        exact ⟨rfl, by omega, h0, h1, h2, h3, by rw [← hx]; simp, hs.2⟩
      · rw [if_neg hs] at he; cases he

set_option maxRecDepth 1000000 in
set_option maxHeartbeats 16000000 in
theorem qd_x {B pb cap : Nat} {rs ls : List Int} {T : Option (List Int)} {s : S} {w3 : World} (HC : Hid (QdC B pb cap rs ls T s w3)) (j no gv cv : Nat) (acc : List Int) (g : Nat → Value) (wr : World) (hj : j < ls.length) (hnoj : no ≤ 2 * j) (hal : acc.length ≤ j)
    (HQ0 : Hid (QSt B (B + 1) pb s w3 j no acc gv cv wr)) (hj1 : j + 1 < ls.length) (hc : ls.getD j 0 = 92) (hd : ls.getD (j + 1) 0 = 120) (v : Int) (k : Nat) (he : esc (ls.drop (j + 1)) = some (v, k)) (HR1 : Hid (RdRel ls (j + 4) false (acc ++ [v])))
    (K : Act → World → Prop) (Q0 : Exit → Act → World → Prop) (HK : Hid (∀ a' w', (∃ k', k' < ls.length - j ∧ QdI B pb cap rs ls s w3 k' a' w') → K a' w')) :
    Code.wp Tryz.prog qdBody (Exit.then K Q0) ⟨qdFr B pb rs.length cap (.slice (some ⟨gv, 0, none⟩) acc.length cv) (.int .i64 ((j : Int) + 1)) g, []⟩ wr := by
  have HL : Hid (Lie B (B + 1) pb w3) := Lib.hid HC.out.lie
  have hlen := HC.out.quo.len
  have hmost := HC.out.quo.most
  have hbig := HC.out.quo.big
  have hcap := HC.out.cap
  have HC0 : Hid (w3.cell? ⟨B + 1, j + 1, none⟩ = some (.int .i32 (ls.getD j 0))) := Lib.hid (by
    have := HC.out.run (1 + j) (by omega)
    rw [HC.out.quo.at' j hj, Nat.add_comm 1 j] at this
    exact this)
  have hs1 : (j : Int) + 1 < (rs.length : Int) := by omega
  have hs2 : (j : Int) + 2 < (rs.length : Int) := by omega
  obtain ⟨i0, hi, hz0, hz1, hz2⟩ := info_parts Tinfo21
  have HC1 : Hid (w3.cell? ⟨B + 1, j + 2, none⟩ = some (.int .i32 (ls.getD (j + 1) 0))) := Lib.hid (by
    have := HC.out.run (1 + (j + 1)) (by omega)
    rw [HC.out.quo.at' (j + 1) hj1, show 1 + (j + 1) = j + 2 by omega] at this
    exact this)
  have hx := esc_x hj1 hd he
  obtain ⟨hk, hl, hx0, hx1, hv⟩ := hx
  have HD0 : Hid (w3.cell? ⟨B + 1, j + 3, none⟩ = some (.int .i32 (ls.getD (j + 2) 0))) := Lib.hid (by
    have := HC.out.run (1 + (j + 2)) (by omega)
    rw [HC.out.quo.at' (j + 2) (by omega), show 1 + (j + 2) = j + 3 by omega] at this
    exact this)
  have HD1 : Hid (w3.cell? ⟨B + 1, j + 4, none⟩ = some (.int .i32 (ls.getD (j + 3) 0))) := Lib.hid (by
    have := HC.out.run (1 + (j + 3)) (by omega)
    rw [HC.out.quo.at' (j + 3) (by omega), show 1 + (j + 3) = j + 4 by omega] at this
    exact this)
  have hr0 := HC.out.quo.ran (j + 2)
  have hr1 := HC.out.quo.ran (j + 3)
  subst hk
  obtain ⟨d0, hd0⟩ : ∃ d, ls.getD (j + 2) 0 = d := ⟨_, rfl⟩
  rw [hd0] at HD0 hr0 hx0 hv
  obtain ⟨d1, hd1⟩ : ∃ d, ls.getD (j + 3) 0 = d := ⟨_, rfl⟩
  rw [hd1] at HD1 hr1 hx1 hv
  rw [hc] at HC0
  rw [hd] at HC1
  have hsX : (j : Int) + 4 < (rs.length : Int) := by omega
  have hsl : ∀ w, (Instr.slice 27 (.slice (some ⟨B + 1, 0, none⟩) rs.length cap) (some (.int .i64 ((j : Int) + 3))) (some (.int .i64 ((j : Int) + 5))) none).run Tryz.prog w = .ok (.slice (some ⟨B + 1, j + 3, none⟩) 2 (cap - (j + 3))) w := fun w => by
    have h1 := slice_ab (B + 1) rs.length cap (j + 3) (j + 5) w (by omega) (by omega)
    have hcut : cut (B + 1) cap (j + 3) = ⟨B + 1, j + 3, none⟩ := by unfold cut; rw [if_neg (by omega)]
    rw [hcut, show j + 5 - (j + 3) = 2 by omega] at h1
    exact h1
  have HX : Hid (∀ w, w.cell? ⟨B + 1, j + 3, none⟩ = some (.int .i32 d0) → w.cell? ⟨B + 1, j + 4, none⟩ = some (.int .i32 d1) → Calls Tryz.prog 149 #[.slice (some ⟨B + 1, j + 3, none⟩) 2 (cap - (j + 3))] w fun e w' => e = .returned (.int .i64 v) ∧ w = w') := Lib.hid (fun w k0 k1 => by
    rw [hv]
    exact hexRunes2 (B + 1) (j + 3) (cap - (j + 3)) d0 d1 w k0 k1 hr0 hr1 hx0 hx1)
  have hy0 := hexv_hi d0
  have hy1 := hexv_hi d1
  have hv0 : 0 ≤ v := by omega
  have hv1 : v ≤ 255 := by omega
  clear hc hd HC he hv hd0 hr0 hx0 hy0 hd1 hr1 hx1 hy1
  unfold qdFr
  conv => arg 2; whnf
  go_wp2_with fail
  refine (QSt.prog1 HL.out HQ0.out (by omega)).mono ?_
  rintro e wA ⟨rfl, hqa⟩
  have HQA := Lib.hid hqa
  have ca := hqa.rune HC0.out
  clear hqa HQ0
  go_wp2_with fail
  refine (QSt.add HL.out _ HQA.out (by omega)).mono ?_
  rintro e wB ⟨rfl, hqb⟩
  have HQB := Lib.hid hqb
  have cb := hqb.rune HC1.out
  have cd0 := hqb.rune HD0.out
  have cd1 := hqb.rune HD1.out
  clear hqb HQA ca
  go_wp2_with fail
  refine (isNewLine' _ _ false rfl _).mono ?_
  rintro e w' ⟨rfl, rfl⟩
  go_wp2_with fail
  refine (HX.out _ cd0 cd1).mono ?_
  rintro e w' ⟨rfl, rfl⟩
  clear cb HX hsl cd0 cd1
  go_wp2_with (at_builtin; refine wpList_append_own_at _ rfl _ _ 27 rfl (B + 4) 21 i0 (.int .i32 0) 1 4 Tryz.underlying27 hi hz0 hz1 hz2 rfl (by decide) _ _ _ rfl (HQB.out.val.alloc _) ⟨wB.heap.size, 0, none⟩ 1 1 [.int .i32 v] rfl rfl (cell_one_new _ _ _) (by intro u hu; simp at hu; subst hu; rfl) (by unfold maxLen; omega) (by omega) (by have := HQB.out.size; simp; omega) ?_)
  intro v' wD hown' hgrow _ hfr
  obtain ⟨gv', cv', rfl, hqd⟩ := QSt.app HL.out HQB.out hown' hgrow hfr
  have HQD := Lib.hid hqd
  clear hown' hgrow hfr hqd HQB
  go_wp2_with fail
  refine (QSt.prog3 HL.out HQD.out (by omega)).mono ?_
  rintro e wE ⟨rfl, hqe⟩
  have HQE := Lib.hid hqe
  clear hqe HQD
  go_wp2_with fail
  refine HK.out _ _ ⟨ls.length - (j + 4), by omega, QdI.mk (j + 4) (no + 1) gv' cv' (acc ++ [v]) ?_ (by omega) (by omega) (by simp; omega) HQE.out HR1.out⟩
  rw [show (acc ++ [(v : Int)]).length = acc.length + 1 by simp, show ((j + 4 : Nat) : Int) + 1 = (j : Int) + 5 by omega]
  kernel_rfl

set_option maxRecDepth 1000000 in
set_option maxHeartbeats 16000000 in
theorem qd_u {B pb cap : Nat} {rs ls : List Int} {T : Option (List Int)} {s : S} {w3 : World} (HC : Hid (QdC B pb cap rs ls T s w3)) (j no gv cv : Nat) (acc : List Int) (g : Nat → Value) (wr : World) (hj : j < ls.length) (hnoj : no ≤ 2 * j) (hal : acc.length ≤ j)
    (HQ0 : Hid (QSt B (B + 1) pb s w3 j no acc gv cv wr)) (hj1 : j + 1 < ls.length) (hc : ls.getD j 0 = 92) (hd : ls.getD (j + 1) 0 = 117) (v : Int) (k : Nat) (he : esc (ls.drop (j + 1)) = some (v, k)) (HR1 : Hid (RdRel ls (j + 6) false (acc ++ [v])))
    (K : Act → World → Prop) (Q0 : Exit → Act → World → Prop) (HK : Hid (∀ a' w', (∃ k', k' < ls.length - j ∧ QdI B pb cap rs ls s w3 k' a' w') → K a' w')) :
    Code.wp Tryz.prog qdBody (Exit.then K Q0) ⟨qdFr B pb rs.length cap (.slice (some ⟨gv, 0, none⟩) acc.length cv) (.int .i64 ((j : Int) + 1)) g, []⟩ wr := by
  have HL : Hid (Lie B (B + 1) pb w3) := Lib.hid HC.out.lie
  have hlen := HC.out.quo.len
  have hmost := HC.out.quo.most
  have hbig := HC.out.quo.big
  have hcap := HC.out.cap
  have HC0 : Hid (w3.cell? ⟨B + 1, j + 1, none⟩ = some (.int .i32 (ls.getD j 0))) := Lib.hid (by
    have := HC.out.run (1 + j) (by omega)
    rw [HC.out.quo.at' j hj, Nat.add_comm 1 j] at this
    exact this)
  have hs1 : (j : Int) + 1 < (rs.length : Int) := by omega
  have hs2 : (j : Int) + 2 < (rs.length : Int) := by omega
  obtain ⟨i0, hi, hz0, hz1, hz2⟩ := info_parts Tinfo21
  have HC1 : Hid (w3.cell? ⟨B + 1, j + 2, none⟩ = some (.int .i32 (ls.getD (j + 1) 0))) := Lib.hid (by
    have := HC.out.run (1 + (j + 1)) (by omega)
    rw [HC.out.quo.at' (j + 1) hj1, show 1 + (j + 1) = j + 2 by omega] at this
    exact this)
  have hx := esc_u hj1 hd he
  obtain ⟨hk, hl, hx0, hx1, hx2, hx3, hv, hsur⟩ := hx
  have HD0 : Hid (w3.cell? ⟨B + 1, j + 3, none⟩ = some (.int .i32 (ls.getD (j + 2) 0))) := Lib.hid (by
    have := HC.out.run (1 + (j + 2)) (by omega)
    rw [HC.out.quo.at' (j + 2) (by omega), show 1 + (j + 2) = j + 3 by omega] at this
    exact this)
  have HD1 : Hid (w3.cell? ⟨B + 1, j + 4, none⟩ = some (.int .i32 (ls.getD (j + 3) 0))) := Lib.hid (by
    have := HC.out.run (1 + (j + 3)) (by omega)
    rw [HC.out.quo.at' (j + 3) (by omega), show 1 + (j + 3) = j + 4 by omega] at this
    exact this)
  have HD2 : Hid (w3.cell? ⟨B + 1, j + 5, none⟩ = some (.int .i32 (ls.getD (j + 4) 0))) := Lib.hid (by
    have := HC.out.run (1 + (j + 4)) (by omega)
    rw [HC.out.quo.at' (j + 4) (by omega), show 1 + (j + 4) = j + 5 by omega] at this
    exact this)
  have HD3 : Hid (w3.cell? ⟨B + 1, j + 6, none⟩ = some (.int .i32 (ls.getD (j + 5) 0))) := Lib.hid (by
    have := HC.out.run (1 + (j + 5)) (by omega)
    rw [HC.out.quo.at' (j + 5) (by omega), show 1 + (j + 5) = j + 6 by omega] at this
    exact this)
  have hr0 := HC.out.quo.ran (j + 2)
  have hr1 := HC.out.quo.ran (j + 3)
  have hr2 := HC.out.quo.ran (j + 4)
  have hr3 := HC.out.quo.ran (j + 5)
  subst hk
  obtain ⟨d0, hd0⟩ : ∃ d, ls.getD (j + 2) 0 = d := ⟨_, rfl⟩
  rw [hd0] at HD0 hr0 hx0 hv
  obtain ⟨d1, hd1⟩ : ∃ d, ls.getD (j + 3) 0 = d := ⟨_, rfl⟩
  rw [hd1] at HD1 hr1 hx1 hv
  obtain ⟨d2, hd2⟩ : ∃ d, ls.getD (j + 4) 0 = d := ⟨_, rfl⟩
  rw [hd2] at HD2 hr2 hx2 hv
  obtain ⟨d3, hd3⟩ : ∃ d, ls.getD (j + 5) 0 = d := ⟨_, rfl⟩
  rw [hd3] at HD3 hr3 hx3 hv
  rw [hc] at HC0
  rw [hd] at HC1
  have hsX : (j : Int) + 6 < (rs.length : Int) := by omega
  have hsl : ∀ w, (Instr.slice 27 (.slice (some ⟨B + 1, 0, none⟩) rs.length cap) (some (.int .i64 ((j : Int) + 3))) (some (.int .i64 ((j : Int) + 7))) none).run Tryz.prog w = .ok (.slice (some ⟨B + 1, j + 3, none⟩) 4 (cap - (j + 3))) w := fun w => by
    have h1 := slice_ab (B + 1) rs.length cap (j + 3) (j + 7) w (by omega) (by omega)
    have hcut : cut (B + 1) cap (j + 3) = ⟨B + 1, j + 3, none⟩ := by unfold cut; rw [if_neg (by omega)]
    rw [hcut, show j + 7 - (j + 3) = 4 by omega] at h1
    exact h1
  have HX : Hid (∀ w, w.cell? ⟨B + 1, j + 3, none⟩ = some (.int .i32 d0) → w.cell? ⟨B + 1, j + 4, none⟩ = some (.int .i32 d1) → w.cell? ⟨B + 1, j + 5, none⟩ = some (.int .i32 d2) → w.cell? ⟨B + 1, j + 6, none⟩ = some (.int .i32 d3) → Calls Tryz.prog 149 #[.slice (some ⟨B + 1, j + 3, none⟩) 4 (cap - (j + 3))] w fun e w' => e = .returned (.int .i64 v) ∧ w = w') := Lib.hid (fun w k0 k1 k2 k3 => by
    rw [hv]
    exact hexRunes4 (B + 1) (j + 3) (cap - (j + 3)) d0 d1 d2 d3 w k0 k1 k2 k3 hr0 hr1 hr2 hr3 hx0 hx1 hx2 hx3)
  have hy0 := hexv_hi d0
  have hy1 := hexv_hi d1
  have hy2 := hexv_hi d2
  have hy3 := hexv_hi d3
  have hv0 : 0 ≤ v := by omega
  have hv1 : v ≤ 65535 := by omega
  have hsv : (v < 55296) ∨ (55296 ≤ v ∧ ¬ v ≤ 56319) := by omega
  clear hsur
  clear hc hd HC he hv hd0 hr0 hx0 hy0 hd1 hr1 hx1 hy1 hd2 hr2 hx2 hy2 hd3 hr3 hx3 hy3
  unfold qdFr
  conv => arg 2; whnf
  go_wp2_with fail
  refine (QSt.prog1 HL.out HQ0.out (by omega)).mono ?_
  rintro e wA ⟨rfl, hqa⟩
  have HQA := Lib.hid hqa
  have ca := hqa.rune HC0.out
  clear hqa HQ0
  go_wp2_with fail
  refine (QSt.add HL.out _ HQA.out (by omega)).mono ?_
  rintro e wB ⟨rfl, hqb⟩
  have HQB := Lib.hid hqb
  have cb := hqb.rune HC1.out
  have cd0 := hqb.rune HD0.out
  have cd1 := hqb.rune HD1.out
  have cd2 := hqb.rune HD2.out
  have cd3 := hqb.rune HD3.out
  clear hqb HQA ca
  go_wp2_with fail
  refine (isNewLine' _ _ false rfl _).mono ?_
  rintro e w' ⟨rfl, rfl⟩
  go_wp2_with fail
  refine (HX.out _ cd0 cd1 cd2 cd3).mono ?_
  rintro e w' ⟨rfl, rfl⟩
  clear cb HX hsl cd0 cd1 cd2 cd3
  rcases hsv with hsv1 | ⟨hsv1, hsv2⟩
  · go_wp2_with (at_builtin; refine wpList_append_own_at _ rfl _ _ 27 rfl (B + 4) 21 i0 (.int .i32 0) 1 4 Tryz.underlying27 hi hz0 hz1 hz2 rfl (by decide) _ _ _ rfl (HQB.out.val.alloc _) ⟨wB.heap.size, 0, none⟩ 1 1 [.int .i32 v] rfl rfl (cell_one_new _ _ _) (by intro u hu; simp at hu; subst hu; rfl) (by unfold maxLen; omega) (by omega) (by have := HQB.out.size; simp; omega) ?_)
    intro v' wD hown' hgrow _ hfr
    obtain ⟨gv', cv', rfl, hqd⟩ := QSt.app HL.out HQB.out hown' hgrow hfr
    have HQD := Lib.hid hqd
    clear hown' hgrow hfr hqd HQB
    go_wp2_with fail
    refine (QSt.prog5 HL.out HQD.out (by omega)).mono ?_
    rintro e wE ⟨rfl, hqe⟩
    have HQE := Lib.hid hqe
    clear hqe HQD
    go_wp2_with fail
    refine HK.out _ _ ⟨ls.length - (j + 6), by omega, QdI.mk (j + 6) (no + 1) gv' cv' (acc ++ [v]) ?_ (by omega) (by omega) (by simp; omega) HQE.out HR1.out⟩
    rw [show (acc ++ [(v : Int)]).length = acc.length + 1 by simp, show ((j + 6 : Nat) : Int) + 1 = (j : Int) + 7 by omega]
    kernel_rfl
  · go_wp2_with (at_builtin; refine wpList_append_own_at _ rfl _ _ 27 rfl (B + 4) 21 i0 (.int .i32 0) 1 4 Tryz.underlying27 hi hz0 hz1 hz2 rfl (by decide) _ _ _ rfl (HQB.out.val.alloc _) ⟨wB.heap.size, 0, none⟩ 1 1 [.int .i32 v] rfl rfl (cell_one_new _ _ _) (by intro u hu; simp at hu; subst hu; rfl) (by unfold maxLen; omega) (by omega) (by have := HQB.out.size; simp; omega) ?_)
    intro v' wD hown' hgrow _ hfr
    obtain ⟨gv', cv', rfl, hqd⟩ := QSt.app HL.out HQB.out hown' hgrow hfr
    have HQD := Lib.hid hqd
    clear hown' hgrow hfr hqd HQB
    go_wp2_with fail
    refine (QSt.prog5 HL.out HQD.out (by omega)).mono ?_
    rintro e wE ⟨rfl, hqe⟩
    have HQE := Lib.hid hqe
    clear hqe HQD
    go_wp2_with fail
    refine HK.out _ _ ⟨ls.length - (j + 6), by omega, QdI.mk (j + 6) (no + 1) gv' cv' (acc ++ [v]) ?_ (by omega) (by omega) (by simp; omega) HQE.out HR1.out⟩
    rw [show (acc ++ [(v : Int)]).length = acc.length + 1 by simp, show ((j + 6 : Nat) : Int) + 1 = (j : Int) + 7 by omega]
    kernel_rfl

end Go.Proofs.YtpjfmfaijcbopaaGreatDoor
