/- The loop of scanDoubleQuote: an escape of one letter. -/
import Derived.Test.YtpjfmfaijcbopaaGreatDoorQb
namespace Go.Proofs.YtpjfmfaijcbopaaGreatDoor
open Go.RowKit Go.Proofs

set_option maxRecDepth 1000000 in
set_option maxHeartbeats 16000000 in
theorem qd_n101 {B pb cap : Nat} {rs ls : List Int} {T : Option (List Int)} {s : S} {w3 : World} (HC : Hid (QdC B pb cap rs ls T s w3)) (j no gv cv : Nat) (acc : List Int) (g : Nat → Value) (wr : World) (hj : j < ls.length) (hnoj : no ≤ 2 * j) (hal : acc.length ≤ j)
    (HQ0 : Hid (QSt B (B + 1) pb s w3 j no acc gv cv wr)) (hj1 : j + 1 < ls.length) (hc : ls.getD j 0 = 92) (hd : ls.getD (j + 1) 0 = 101) (HR1 : Hid (RdRel ls (j + 2) false (acc ++ [27])))
    (K : Act → World → Prop) (Q0 : Exit → Act → World → Prop) (HK : Hid (∀ a' w', (∃ k', k' < ls.length - j ∧ QdI B pb cap rs ls s w3 k' a' w') → K a' w')) :
    Code.wp Tryz.prog qdBody (Exit.then K Q0) ⟨qdFr B pb rs.length cap (.slice (some ⟨gv, 0, none⟩) acc.length cv) (.int .i64 ((j : Int) + 1)) g, []⟩ wr := by
  have HL : Hid (Lie B (B + 1) pb w3) := Lib.hid HC.out.lie
  have hlen := HC.out.quo.len
  have hmost := HC.out.quo.most
  have hbig := HC.out.quo.big
  have hcap := HC.out.cap
  have HC0 : Hid (w3.cell? ⟨B + 1, j + 1, none⟩ = some (.int .i32 (ls.getD j 0))) := Lib.hid (by
    have := HC.out.run (1 + j) (by omega)
    rw [HC.out.quo.at' j hj, Nat.add_comm 1 j] at this
    exact this)
  have hs1 : (j : Int) + 1 < (rs.length : Int) := by omega
  have hs2 : (j : Int) + 2 < (rs.length : Int) := by omega
  obtain ⟨i0, hi, hz0, hz1, hz2⟩ := info_parts Tinfo21
  have HC1 : Hid (w3.cell? ⟨B + 1, j + 2, none⟩ = some (.int .i32 (ls.getD (j + 1) 0))) := Lib.hid (by
    have := HC.out.run (1 + (j + 1)) (by omega)
    rw [HC.out.quo.at' (j + 1) hj1, show 1 + (j + 1) = j + 2 by omega] at this
    exact this)
  rw [hc] at HC0
  rw [hd] at HC1
  clear hc hd HC
  unfold qdFr
  conv => arg 2; whnf
  go_wp2_with fail
  refine (QSt.prog1 HL.out HQ0.out (by omega)).mono ?_
  rintro e wA ⟨rfl, hqa⟩
  have HQA := Lib.hid hqa
  have ca := hqa.rune HC0.out
  clear hqa HQ0
  go_wp2_with fail
  refine (QSt.add HL.out _ HQA.out (by omega)).mono ?_
  rintro e wB ⟨rfl, hqb⟩
  have HQB := Lib.hid hqb
  have cb := hqb.rune HC1.out
  clear hqb HQA ca
  go_wp2_with fail
  refine (isNewLine' _ _ false rfl _).mono ?_
  rintro e w' ⟨rfl, rfl⟩
  go_wp2_with fail
  refine (QSt.add HL.out _ HQB.out (by omega)).mono ?_
  rintro e wC ⟨rfl, hqc⟩
  have HQC := Lib.hid hqc
  clear hqc HQB cb
  go_wp2_with (at_builtin; refine wpList_append_own_at _ rfl _ _ 27 rfl (B + 4) 21 i0 (.int .i32 0) 1 4 Tryz.underlying27 hi hz0 hz1 hz2 rfl (by decide) _ _ _ rfl (HQC.out.val.alloc _) ⟨wC.heap.size, 0, none⟩ 1 1 [.int .i32 27] rfl rfl (cell_one_new _ _ _) (by intro u hu; simp at hu; subst hu; rfl) (by unfold maxLen; omega) (by omega) (by have := HQC.out.size; simp; omega) ?_)
  intro v' wD hown' hgrow _ hfr
  obtain ⟨gv', cv', rfl, hqd⟩ := QSt.app HL.out HQC.out hown' hgrow hfr
  have HQD := Lib.hid hqd
  clear hown' hgrow hfr hqd HQC
  go_wp2_with fail
  refine (QSt.prog1 HL.out HQD.out (by omega)).mono ?_
  rintro e wE ⟨rfl, hqe⟩
  have HQE := Lib.hid hqe
  clear hqe HQD
  go_wp2_with fail
  refine HK.out _ _ ⟨ls.length - (j + 2), by omega, QdI.mk (j + 2) (no + 2) gv' cv' (acc ++ [27]) ?_ (by omega) (by omega) (by simp; omega) HQE.out HR1.out⟩
  rw [show (acc ++ [(27 : Int)]).length = acc.length + 1 by simp, show ((j + 2 : Nat) : Int) + 1 = (j : Int) + 3 by omega]
  kernel_rfl

set_option maxRecDepth 1000000 in
set_option maxHeartbeats 16000000 in
theorem qd_n32 {B pb cap : Nat} {rs ls : List Int} {T : Option (List Int)} {s : S} {w3 : World} (HC : Hid (QdC B pb cap rs ls T s w3)) (j no gv cv : Nat) (acc : List Int) (g : Nat → Value) (wr : World) (hj : j < ls.length) (hnoj : no ≤ 2 * j) (hal : acc.length ≤ j)
    (HQ0 : Hid (QSt B (B + 1) pb s w3 j no acc gv cv wr)) (hj1 : j + 1 < ls.length) (hc : ls.getD j 0 = 92) (hd : ls.getD (j + 1) 0 = 32) (HR1 : Hid (RdRel ls (j + 2) false (acc ++ [32])))
    (K : Act → World → Prop) (Q0 : Exit → Act → World → Prop) (HK : Hid (∀ a' w', (∃ k', k' < ls.length - j ∧ QdI B pb cap rs ls s w3 k' a' w') → K a' w')) :
    Code.wp Tryz.prog qdBody (Exit.then K Q0) ⟨qdFr B pb rs.length cap (.slice (some ⟨gv, 0, none⟩) acc.length cv) (.int .i64 ((j : Int) + 1)) g, []⟩ wr := by
  have HL : Hid (Lie B (B + 1) pb w3) := Lib.hid HC.out.lie
  have hlen := HC.out.quo.len
  have hmost := HC.out.quo.most
  have hbig := HC.out.quo.big
  have hcap := HC.out.cap
  have HC0 : Hid (w3.cell? ⟨B + 1, j + 1, none⟩ = some (.int .i32 (ls.getD j 0))) := Lib.hid (by
    have := HC.out.run (1 + j) (by omega)
    rw [HC.out.quo.at' j hj, Nat.add_comm 1 j] at this
    exact this)
  have hs1 : (j : Int) + 1 < (rs.length : Int) := by omega
  have hs2 : (j : Int) + 2 < (rs.length : Int) := by omega
  obtain ⟨i0, hi, hz0, hz1, hz2⟩ := info_parts Tinfo21
  have HC1 : Hid (w3.cell? ⟨B + 1, j + 2, none⟩ = some (.int .i32 (ls.getD (j + 1) 0))) := Lib.hid (by
    have := HC.out.run (1 + (j + 1)) (by omega)
    rw [HC.out.quo.at' (j + 1) hj1, show 1 + (j + 1) = j + 2 by omega] at this
    exact this)
  rw [hc] at HC0
  rw [hd] at HC1
  clear hc hd HC
  unfold qdFr
  conv => arg 2; whnf
  go_wp2_with fail
  refine (QSt.prog1 HL.out HQ0.out (by omega)).mono ?_
  rintro e wA ⟨rfl, hqa⟩
  have HQA := Lib.hid hqa
  have ca := hqa.rune HC0.out
  clear hqa HQ0
  go_wp2_with fail
  refine (QSt.add HL.out _ HQA.out (by omega)).mono ?_
  rintro e wB ⟨rfl, hqb⟩
  have HQB := Lib.hid hqb
  have cb := hqb.rune HC1.out
  clear hqb HQA ca
  go_wp2_with fail
  refine (isNewLine' _ _ false rfl _).mono ?_
  rintro e w' ⟨rfl, rfl⟩
  go_wp2_with fail
  refine (QSt.add HL.out _ HQB.out (by omega)).mono ?_
  rintro e wC ⟨rfl, hqc⟩
  have HQC := Lib.hid hqc
  clear hqc HQB cb
  go_wp2_with (at_builtin; refine wpList_append_own_at _ rfl _ _ 27 rfl (B + 4) 21 i0 (.int .i32 0) 1 4 Tryz.underlying27 hi hz0 hz1 hz2 rfl (by decide) _ _ _ rfl (HQC.out.val.alloc _) ⟨wC.heap.size, 0, none⟩ 1 1 [.int .i32 32] rfl rfl (cell_one_new _ _ _) (by intro u hu; simp at hu; subst hu; rfl) (by unfold maxLen; omega) (by omega) (by have := HQC.out.size; simp; omega) ?_)
  intro v' wD hown' hgrow _ hfr
  obtain ⟨gv', cv', rfl, hqd⟩ := QSt.app HL.out HQC.out hown' hgrow hfr
  have HQD := Lib.hid hqd
  clear hown' hgrow hfr hqd HQC
  go_wp2_with fail
  refine (QSt.prog1 HL.out HQD.out (by omega)).mono ?_
  rintro e wE ⟨rfl, hqe⟩
  have HQE := Lib.hid hqe
  clear hqe HQD
  go_wp2_with fail
  refine HK.out _ _ ⟨ls.length - (j + 2), by omega, QdI.mk (j + 2) (no + 2) gv' cv' (acc ++ [32]) ?_ (by omega) (by omega) (by simp; omega) HQE.out HR1.out⟩
  rw [show (acc ++ [(32 : Int)]).length = acc.length + 1 by simp, show ((j + 2 : Nat) : Int) + 1 = (j : Int) + 3 by omega]
  kernel_rfl

set_option maxRecDepth 1000000 in
set_option maxHeartbeats 16000000 in
theorem qd_n34 {B pb cap : Nat} {rs ls : List Int} {T : Option (List Int)} {s : S} {w3 : World} (HC : Hid (QdC B pb cap rs ls T s w3)) (j no gv cv : Nat) (acc : List Int) (g : Nat → Value) (wr : World) (hj : j < ls.length) (hnoj : no ≤ 2 * j) (hal : acc.length ≤ j)
    (HQ0 : Hid (QSt B (B + 1) pb s w3 j no acc gv cv wr)) (hj1 : j + 1 < ls.length) (hc : ls.getD j 0 = 92) (hd : ls.getD (j + 1) 0 = 34) (HR1 : Hid (RdRel ls (j + 2) false (acc ++ [34])))
    (K : Act → World → Prop) (Q0 : Exit → Act → World → Prop) (HK : Hid (∀ a' w', (∃ k', k' < ls.length - j ∧ QdI B pb cap rs ls s w3 k' a' w') → K a' w')) :
    Code.wp Tryz.prog qdBody (Exit.then K Q0) ⟨qdFr B pb rs.length cap (.slice (some ⟨gv, 0, none⟩) acc.length cv) (.int .i64 ((j : Int) + 1)) g, []⟩ wr := by
  have HL : Hid (Lie B (B + 1) pb w3) := Lib.hid HC.out.lie
  have hlen := HC.out.quo.len
  have hmost := HC.out.quo.most
  have hbig := HC.out.quo.big
  have hcap := HC.out.cap
  have HC0 : Hid (w3.cell? ⟨B + 1, j + 1, none⟩ = some (.int .i32 (ls.getD j 0))) := Lib.hid (by
    have := HC.out.run (1 + j) (by omega)
    rw [HC.out.quo.at' j hj, Nat.add_comm 1 j] at this
    exact this)
  have hs1 : (j : Int) + 1 < (rs.length : Int) := by omega
  have hs2 : (j : Int) + 2 < (rs.length : Int) := by omega
  obtain ⟨i0, hi, hz0, hz1, hz2⟩ := info_parts Tinfo21
  have HC1 : Hid (w3.cell? ⟨B + 1, j + 2, none⟩ = some (.int .i32 (ls.getD (j + 1) 0))) := Lib.hid (by
    have := HC.out.run (1 + (j + 1)) (by omega)
    rw [HC.out.quo.at' (j + 1) hj1, show 1 + (j + 1) = j + 2 by omega] at this
    exact this)
  rw [hc] at HC0
  rw [hd] at HC1
  clear hc hd HC
  unfold qdFr
  conv => arg 2; whnf
  go_wp2_with fail
  refine (QSt.prog1 HL.out HQ0.out (by omega)).mono ?_
  rintro e wA ⟨rfl, hqa⟩
  have HQA := Lib.hid hqa
  have ca := hqa.rune HC0.out
  clear hqa HQ0
  go_wp2_with fail
  refine (QSt.add HL.out _ HQA.out (by omega)).mono ?_
  rintro e wB ⟨rfl, hqb⟩
  have HQB := Lib.hid hqb
  have cb := hqb.rune HC1.out
  clear hqb HQA ca
  go_wp2_with fail
  refine (isNewLine' _ _ false rfl _).mono ?_
  rintro e w' ⟨rfl, rfl⟩
  go_wp2_with fail
  refine (QSt.add HL.out _ HQB.out (by omega)).mono ?_
  rintro e wC ⟨rfl, hqc⟩
  have HQC := Lib.hid hqc
  clear hqc HQB cb
  go_wp2_with (at_builtin; refine wpList_append_own_at _ rfl _ _ 27 rfl (B + 4) 21 i0 (.int .i32 0) 1 4 Tryz.underlying27 hi hz0 hz1 hz2 rfl (by decide) _ _ _ rfl (HQC.out.val.alloc _) ⟨wC.heap.size, 0, none⟩ 1 1 [.int .i32 34] rfl rfl (cell_one_new _ _ _) (by intro u hu; simp at hu; subst hu; rfl) (by unfold maxLen; omega) (by omega) (by have := HQC.out.size; simp; omega) ?_)
  intro v' wD hown' hgrow _ hfr
  obtain ⟨gv', cv', rfl, hqd⟩ := QSt.app HL.out HQC.out hown' hgrow hfr
  have HQD := Lib.hid hqd
  clear hown' hgrow hfr hqd HQC
  go_wp2_with fail
  refine (QSt.prog1 HL.out HQD.out (by omega)).mono ?_
  rintro e wE ⟨rfl, hqe⟩
  have HQE := Lib.hid hqe
  clear hqe HQD
  go_wp2_with fail
  refine HK.out _ _ ⟨ls.length - (j + 2), by omega, QdI.mk (j + 2) (no + 2) gv' cv' (acc ++ [34]) ?_ (by omega) (by omega) (by simp; omega) HQE.out HR1.out⟩
  rw [show (acc ++ [(34 : Int)]).length = acc.length + 1 by simp, show ((j + 2 : Nat) : Int) + 1 = (j : Int) + 3 by omega]
  kernel_rfl

set_option maxRecDepth 1000000 in
set_option maxHeartbeats 16000000 in
theorem qd_n92 {B pb cap : Nat} {rs ls : List Int} {T : Option (List Int)} {s : S} {w3 : World} (HC : Hid (QdC B pb cap rs ls T s w3)) (j no gv cv : Nat) (acc : List Int) (g : Nat → Value) (wr : World) (hj : j < ls.length) (hnoj : no ≤ 2 * j) (hal : acc.length ≤ j)
    (HQ0 : Hid (QSt B (B + 1) pb s w3 j no acc gv cv wr)) (hj1 : j + 1 < ls.length) (hc : ls.getD j 0 = 92) (hd : ls.getD (j + 1) 0 = 92) (HR1 : Hid (RdRel ls (j + 2) false (acc ++ [92])))
    (K : Act → World → Prop) (Q0 : Exit → Act → World → Prop) (HK : Hid (∀ a' w', (∃ k', k' < ls.length - j ∧ QdI B pb cap rs ls s w3 k' a' w') → K a' w')) :
    Code.wp Tryz.prog qdBody (Exit.then K Q0) ⟨qdFr B pb rs.length cap (.slice (some ⟨gv, 0, none⟩) acc.length cv) (.int .i64 ((j : Int) + 1)) g, []⟩ wr := by
  have HL : Hid (Lie B (B + 1) pb w3) := Lib.hid HC.out.lie
  have hlen := HC.out.quo.len
  have hmost := HC.out.quo.most
  have hbig := HC.out.quo.big
  have hcap := HC.out.cap
  have HC0 : Hid (w3.cell? ⟨B + 1, j + 1, none⟩ = some (.int .i32 (ls.getD j 0))) := Lib.hid (by
    have := HC.out.run (1 + j) (by omega)
    rw [HC.out.quo.at' j hj, Nat.add_comm 1 j] at this
    exact this)
  have hs1 : (j : Int) + 1 < (rs.length : Int) := by omega
  have hs2 : (j : Int) + 2 < (rs.length : Int) := by omega
  obtain ⟨i0, hi, hz0, hz1, hz2⟩ := info_parts Tinfo21
  have HC1 : Hid (w3.cell? ⟨B + 1, j + 2, none⟩ = some (.int .i32 (ls.getD (j + 1) 0))) := Lib.hid (by
    have := HC.out.run (1 + (j + 1)) (by omega)
    rw [HC.out.quo.at' (j + 1) hj1, show 1 + (j + 1) = j + 2 by omega] at this
    exact this)
  rw [hc] at HC0
  rw [hd] at HC1
  clear hc hd HC
  unfold qdFr
  conv => arg 2; whnf
  go_wp2_with fail
  refine (QSt.prog1 HL.out HQ0.out (by omega)).mono ?_
  rintro e wA ⟨rfl, hqa⟩
  have HQA := Lib.hid hqa
  have ca := hqa.rune HC0.out
  clear hqa HQ0
  go_wp2_with fail
  refine (QSt.add HL.out _ HQA.out (by omega)).mono ?_
  rintro e wB ⟨rfl, hqb⟩
  have HQB := Lib.hid hqb
  have cb := hqb.rune HC1.out
  clear hqb HQA ca
  go_wp2_with fail
  refine (isNewLine' _ _ false rfl _).mono ?_
  rintro e w' ⟨rfl, rfl⟩
  go_wp2_with fail
  refine (QSt.add HL.out _ HQB.out (by omega)).mono ?_
  rintro e wC ⟨rfl, hqc⟩
  have HQC := Lib.hid hqc
  clear hqc HQB cb
  go_wp2_with (at_builtin; refine wpList_append_own_at _ rfl _ _ 27 rfl (B + 4) 21 i0 (.int .i32 0) 1 4 Tryz.underlying27 hi hz0 hz1 hz2 rfl (by decide) _ _ _ rfl (HQC.out.val.alloc _) ⟨wC.heap.size, 0, none⟩ 1 1 [.int .i32 92] rfl rfl (cell_one_new _ _ _) (by intro u hu; simp at hu; subst hu; rfl) (by unfold maxLen; omega) (by omega) (by have := HQC.out.size; simp; omega) ?_)
  intro v' wD hown' hgrow _ hfr
  obtain ⟨gv', cv', rfl, hqd⟩ := QSt.app HL.out HQC.out hown' hgrow hfr
  have HQD := Lib.hid hqd
  clear hown' hgrow hfr hqd HQC
  go_wp2_with fail
  refine (QSt.prog1 HL.out HQD.out (by omega)).mono ?_
  rintro e wE ⟨rfl, hqe⟩
  have HQE := Lib.hid hqe
  clear hqe HQD
  go_wp2_with fail
  refine HK.out _ _ ⟨ls.length - (j + 2), by omega, QdI.mk (j + 2) (no + 2) gv' cv' (acc ++ [92]) ?_ (by omega) (by omega) (by simp; omega) HQE.out HR1.out⟩
  rw [show (acc ++ [(92 : Int)]).length = acc.length + 1 by simp, show ((j + 2 : Nat) : Int) + 1 = (j : Int) + 3 by omega]
  kernel_rfl

end Go.Proofs.YtpjfmfaijcbopaaGreatDoor
