/- The loop of scanDoubleQuote: a character that stands for itself. -/
import Derived.Test.YtpjfmfaijcbopaaGreatDoorQb
namespace Go.Proofs.YtpjfmfaijcbopaaGreatDoor
open Go.RowKit Go.Proofs

set_option maxRecDepth 1000000 in
set_option maxHeartbeats 16000000 in
theorem qd_plain {B pb cap : Nat} {rs ls : List Int} {T : Option (List Int)} {s : S} {w3 : World} (HC : Hid (QdC B pb cap rs ls T s w3)) (j no gv cv : Nat) (acc : List Int) (g : Nat → Value) (wr : World) (hj : j < ls.length) (hnoj : no ≤ 2 * j) (hal : acc.length ≤ j)
    (HQ0 : Hid (QSt B (B + 1) pb s w3 j no acc gv cv wr)) (HR : Hid (RdRel ls j false acc)) (h92 : ls.getD j 0 ≠ 92)
    (K : Act → World → Prop) (Q0 : Exit → Act → World → Prop) (HK : Hid (∀ a' w', (∃ k', k' < ls.length - j ∧ QdI B pb cap rs ls s w3 k' a' w') → K a' w')) :
    Code.wp Tryz.prog qdBody (Exit.then K Q0) ⟨qdFr B pb rs.length cap (.slice (some ⟨gv, 0, none⟩) acc.length cv) (.int .i64 ((j : Int) + 1)) g, []⟩ wr := by
  have HL : Hid (Lie B (B + 1) pb w3) := Lib.hid HC.out.lie
  have hlen := HC.out.quo.len
  have hmost := HC.out.quo.most
  have hbig := HC.out.quo.big
  have hcap := HC.out.cap
  have HC0 : Hid (w3.cell? ⟨B + 1, j + 1, none⟩ = some (.int .i32 (ls.getD j 0))) := Lib.hid (by
    have := HC.out.run (1 + j) (by omega)
    rw [HC.out.quo.at' j hj, Nat.add_comm 1 j] at this
    exact this)
  have hs1 : (j : Int) + 1 < (rs.length : Int) := by omega
  have hs2 : (j : Int) + 2 < (rs.length : Int) := by omega
  obtain ⟨i0, hi, hz0, hz1, hz2⟩ := info_parts Tinfo21
  have hno := HC.out.quo.no j
  have h34 : ls.getD j 0 ≠ 34 := fun h => by
    have := HR.out.quote hj h
    rw [HC.out.dq] at this
    cases this
  have HR1 := Lib.hid (HR.out.plain hj h92 h34)
  obtain ⟨c, hcc⟩ : ∃ c, ls.getD j 0 = c := ⟨_, rfl⟩
  rw [hcc] at HC0 hno h92 h34 HR1
  have HNL : Hid (false = (c == 10 || c == 13)) := Lib.hid (by
    have h1 := hno.1
    have h2 := hno.2.1
    simp [h1, h2])
  have q92 : (c == 92) = false := by rw [beq_eq_false_iff_ne]; exact h92
  have q34 : (c != 34) = true := by simp [h34]
  have q9 : (c == 9) = false := by rw [beq_eq_false_iff_ne]; exact hno.2.2.1
  clear h92 h34 hno hcc HR HC
  unfold qdFr
  conv => arg 2; whnf
  go_wp2_with fail
  refine (QSt.prog1 HL.out HQ0.out (by omega)).mono ?_
  rintro e wA ⟨rfl, hqa⟩
  have HQA := Lib.hid hqa
  have ca := hqa.rune HC0.out
  clear hqa HQ0
  go_wp2_with fail
  refine (QSt.add HL.out _ HQA.out (by omega)).mono ?_
  rintro e wB ⟨rfl, hqb⟩
  have HQB := Lib.hid hqb
  clear hqb HQA ca
  go_wp2_with fail
  refine (isNewLine' _ _ false HNL.out _).mono ?_
  rintro e w' ⟨rfl, rfl⟩
  go_wp2_with (at_builtin; refine wpList_append_own_at _ rfl _ _ 27 rfl (B + 4) 21 i0 (.int .i32 0) 1 4 Tryz.underlying27 hi hz0 hz1 hz2 rfl (by decide) _ _ _ rfl (HQB.out.val.alloc _) ⟨wB.heap.size, 0, none⟩ 1 1 [.int .i32 c] rfl rfl (cell_one_new _ _ _) (by intro u hu; simp at hu; subst hu; rfl) (by unfold maxLen; omega) (by omega) (by have := HQB.out.size; simp; omega) ?_)
  intro v' wD hown' hgrow _ hfr
  obtain ⟨gv', cv', rfl, hqd⟩ := QSt.app HL.out HQB.out hown' hgrow hfr
  have HQD := Lib.hid hqd
  clear hown' hgrow hfr hqd HQB
  go_wp2_with fail
  refine HK.out _ _ ⟨ls.length - (j + 1), by omega, QdI.mk (j + 1) (no + 1) gv' cv' (acc ++ [c]) ?_ (by omega) (by omega) (by simp; omega) HQD.out HR1.out⟩
  rw [show (acc ++ [c]).length = acc.length + 1 by simp, show ((j + 1 : Nat) : Int) + 1 = (j : Int) + 2 by omega]
  kernel_rfl

end Go.Proofs.YtpjfmfaijcbopaaGreatDoor
