/- The loop of scanDoubleQuote: an escape that is none. -/
import Derived.Test.YtpjfmfaijcbopaaGreatDoorQb
namespace Go.Proofs.YtpjfmfaijcbopaaGreatDoor
open Go.RowKit Go.Proofs

theorem qend_no {B n : Nat} {ty : Int} {T : Option (List Int)} {w0 wC w' : World} {t : TypeId} {a : Addr} {x : Int} (hb : Below B w0 wC) (hT : Hid (T = none)) (hx : wC.cell? ⟨B, 1, none⟩ = some (.int .i64 x)) (hB : B ≤ wC.heap.size)
    (hk : Kept (fun _ => False) wC w') : QEnd B ty n T w0 (.returned (.tuple #[.pointer none, .iface t (.pointer (some a))])) w' :=
  ⟨hb.trans (hk.below hB (fun _ _ h => h)), fun vals hv => (by rw [hT.out] at hv; cases hv), fun _ => ⟨t, a, x, rfl, hk.cell hx (fun h => h)⟩⟩

set_option maxRecDepth 1000000 in
set_option maxHeartbeats 16000000 in
theorem qd_wrong {B pb cap : Nat} {rs ls : List Int} {T : Option (List Int)} {s : S} {w3 : World} {w0 : World} (HC : Hid (QdC B pb cap rs ls T s w3)) (HB0 : Hid (Below B w0 w3)) (j no gv cv : Nat) (acc : List Int) (g : Nat → Value) (wr : World) (hj : j + 1 < ls.length) (hnoj : no ≤ 2 * j) (_hal : acc.length ≤ j)
    (HQ0 : Hid (QSt B (B + 1) pb s w3 j no acc gv cv wr)) (hc : ls.getD j 0 = 92) (hnot : ls.getD (j + 1) 0 ≠ 48 ∧ ls.getD (j + 1) 0 ≠ 97 ∧ ls.getD (j + 1) 0 ≠ 98 ∧ ls.getD (j + 1) 0 ≠ 116 ∧ ls.getD (j + 1) 0 ≠ 110 ∧ ls.getD (j + 1) 0 ≠ 118 ∧ ls.getD (j + 1) 0 ≠ 102 ∧ ls.getD (j + 1) 0 ≠ 114 ∧ ls.getD (j + 1) 0 ≠ 101 ∧ ls.getD (j + 1) 0 ≠ 32 ∧ ls.getD (j + 1) 0 ≠ 34 ∧ ls.getD (j + 1) 0 ≠ 47 ∧ ls.getD (j + 1) 0 ≠ 92 ∧ ls.getD (j + 1) 0 ≠ 78 ∧ ls.getD (j + 1) 0 ≠ 95 ∧ ls.getD (j + 1) 0 ≠ 76 ∧ ls.getD (j + 1) 0 ≠ 80 ∧ ls.getD (j + 1) 0 ≠ 120 ∧ ls.getD (j + 1) 0 ≠ 117 ∧ ls.getD (j + 1) 0 ≠ 85 ∧ ls.getD (j + 1) 0 ≠ 10 ∧ ls.getD (j + 1) 0 ≠ 13 ∧ ls.getD (j + 1) 0 ≠ 9) (hT : T = none)
    (K : Act → World → Prop) (Q0 : Exit → Act → World → Prop) (HK : Hid (∀ a' w', bodyPost Tryz.prog Tryz.f99 (QEnd B 19 ls.length T w0) .ret a' w' → Q0 .ret a' w')) :
    Code.wp Tryz.prog qdBody (Exit.then K Q0) ⟨qdFr B pb rs.length cap (.slice (some ⟨gv, 0, none⟩) acc.length cv) (.int .i64 ((j : Int) + 1)) g, []⟩ wr := by
  have HL : Hid (Lie B (B + 1) pb w3) := Lib.hid HC.out.lie
  have hlen := HC.out.quo.len
  have hmost := HC.out.quo.most
  have hbig := HC.out.quo.big
  have hcap := HC.out.cap
  have hs1 : (j : Int) + 1 < (rs.length : Int) := by omega
  have hs2 : (j : Int) + 2 ≤ (rs.length : Int) := by omega
  have HC0 : Hid (w3.cell? ⟨B + 1, j + 1, none⟩ = some (.int .i32 92)) := Lib.hid (by
    have := HC.out.run (1 + j) (by omega)
    rw [HC.out.quo.at' j (by omega), hc, Nat.add_comm 1 j] at this
    exact this)
  have hjm : j ≤ 1000 := by omega
  have HJ := Lib.hid hj
  clear hj
  have HT := Lib.hid hT
  clear hT
  have hj := HJ.out
  have HC1 : Hid (w3.cell? ⟨B + 1, j + 2, none⟩ = some (.int .i32 (ls.getD (j + 1) 0))) := Lib.hid (by
    have := HC.out.run (1 + (j + 1)) (by omega)
    rw [HC.out.quo.at' (j + 1) (by omega), show 1 + (j + 1) = j + 2 by omega] at this
    exact this)
  obtain ⟨d, hd⟩ : ∃ d, ls.getD (j + 1) 0 = d := ⟨_, rfl⟩
  rw [hd] at HC1 hnot
  obtain ⟨n48, n97, n98, n116, n110, n118, n102, n114, n101, n32, n34, n47, n92, n78, n95, n76, n80, n120, n117, n85, n10, n13, n9⟩ := hnot
  have q48 : (d == 48) = false := by rw [beq_eq_false_iff_ne]; exact n48
  have q97 : (d == 97) = false := by rw [beq_eq_false_iff_ne]; exact n97
  have q98 : (d == 98) = false := by rw [beq_eq_false_iff_ne]; exact n98
  have q116 : (d == 116) = false := by rw [beq_eq_false_iff_ne]; exact n116
  have q110 : (d == 110) = false := by rw [beq_eq_false_iff_ne]; exact n110
  have q118 : (d == 118) = false := by rw [beq_eq_false_iff_ne]; exact n118
  have q102 : (d == 102) = false := by rw [beq_eq_false_iff_ne]; exact n102
  have q114 : (d == 114) = false := by rw [beq_eq_false_iff_ne]; exact n114
  have q101 : (d == 101) = false := by rw [beq_eq_false_iff_ne]; exact n101
  have q32 : (d == 32) = false := by rw [beq_eq_false_iff_ne]; exact n32
  have q34 : (d == 34) = false := by rw [beq_eq_false_iff_ne]; exact n34
  have q47 : (d == 47) = false := by rw [beq_eq_false_iff_ne]; exact n47
  have q92 : (d == 92) = false := by rw [beq_eq_false_iff_ne]; exact n92
  have q78 : (d == 78) = false := by rw [beq_eq_false_iff_ne]; exact n78
  have q95 : (d == 95) = false := by rw [beq_eq_false_iff_ne]; exact n95
  have q76 : (d == 76) = false := by rw [beq_eq_false_iff_ne]; exact n76
  have q80 : (d == 80) = false := by rw [beq_eq_false_iff_ne]; exact n80
  have q120 : (d == 120) = false := by rw [beq_eq_false_iff_ne]; exact n120
  have q117 : (d == 117) = false := by rw [beq_eq_false_iff_ne]; exact n117
  have q85 : (d == 85) = false := by rw [beq_eq_false_iff_ne]; exact n85
  have q10 : (d == 10) = false := by rw [beq_eq_false_iff_ne]; exact n10
  have q13 : (d == 13) = false := by rw [beq_eq_false_iff_ne]; exact n13
  have q9 : (d == 9) = false := by rw [beq_eq_false_iff_ne]; exact n9
  have hs3 : (j : Int) + 2 < (rs.length : Int) := by omega
  clear hj
  clear n48 n97 n98 n116 n110 n118 n102 n114 n101 n32 n34 n47 n92 n78 n95 n76 n80 n120 n117 n85 n10 n13 n9 hc hd
  unfold qdFr
  conv => arg 2; whnf
  go_wp2_with fail
  refine (QSt.prog1 HL.out HQ0.out (by omega)).mono ?_
  rintro e wA ⟨rfl, hqa⟩
  have HQA := Lib.hid hqa
  have ca := hqa.rune HC0.out
  clear hqa HQ0
  go_wp2_with fail
  refine (QSt.add HL.out _ HQA.out (by omega)).mono ?_
  rintro e wB ⟨rfl, hqb⟩
  have HQB := Lib.hid hqb
  have cb := hqb.rune HC1.out
  clear hqb HQA ca
  go_wp2_with fail
  refine (isNewLine' _ _ false rfl _).mono ?_
  rintro e w' ⟨rfl, rfl⟩
  go_wp2_with fail
  refine (QSt.prog1 HL.out HQB.out (by omega)).mono ?_
  rintro e wC ⟨rfl, hqc⟩
  have HBC : Hid (Below B w0 wC) := Lib.hid (HB0.out.trans (hqc.below HL.out))
  have HPB : Hid (∃ ps, Blk wC pb (posCells ps) 116) := Lib.hid (by obtain ⟨ps, hps⟩ := HC.out.pos; exact ⟨ps, hqc.pos hps⟩)
  have HKV : Hid (∀ w', Kept (fun _ => False) wC w' → (convert 27 9 (.slice (some ⟨gv, 0, none⟩) acc.length cv)).run Tryz.prog w' = .ok (.string (runesBytes acc)) w') := Lib.hid (fun w' hk => convOwn (hk.owns hqc.val (fun _ _ h => h)))
  obtain ⟨g', c', nso, l, col, off, hqq⟩ := hqc
  have z6 := hqq.st.cx.cell 6 _ rfl
  have z1 := hqq.st.sc.cell 1 _ rfl
  have lx := hqq.st.cx.lt
  have ls' := hqq.st.sc.lt
  obtain ⟨org, horg⟩ : ∃ o, runesBytes l = o := ⟨_, rfl⟩
  have HKO : Hid (∀ w', Kept (fun _ => False) wC w' → (convert 27 9 (.slice (some ⟨g', 0, none⟩) ((no + 1) + 1) c')).run Tryz.prog w' = .ok (.string org) w') := Lib.hid (fun w' hk => by rw [← horg]; exact convOwn (hk.owns hqq.own (fun _ _ h => h)))
  have HST := Lib.hid hqq.st
  have kc := HKO.out wC (Kept.refl _ _)
  have kv := HKV.out wC (Kept.refl _ _)
  simp only [] at z6 z1
  clear hqq horg HQB
  have HS : Hid (∀ w', Kept (fun _ => False) wC w' → (w'.cell? ⟨B + 3, 6, none⟩ = some (.slice (some ⟨g', 0, none⟩) (no + 1 + 1) c') ∧ (convert 27 9 (.slice (some ⟨g', 0, none⟩) (no + 1 + 1) c')).run Tryz.prog w' = .ok (.string org) w')) := Lib.hid (fun w' hk => ⟨hk.cell z6 (fun h => h), HKO.out w' hk⟩)
  go_wp2_with fail
  go_region_held3 (fun w' => w'.cell? ⟨B + 3, 6, none⟩ = some (.slice (some ⟨g', 0, none⟩) (no + 1 + 1) c') ∧ (convert 27 9 (.slice (some ⟨g', 0, none⟩) (no + 1 + 1) c')).run Tryz.prog w' = .ok (.string org) w')
    ((refine HS.out _ ?_; repeat' (first | exact Kept.refl _ _ | apply Kept.drew | apply Kept.alloc)))
    (first
      | (go_at_call 106; refine (pos106 B _ _ (HST.out.sc.drew)).mono ?_; rintro e w' ⟨rfl, rfl⟩)
      | (go_at_call 83; refine (invalidTok _ _ _ _).mono ?_; rintro e w' ⟨rfl, rfl⟩)
      | (go_at_call 148; refine (errInvalid _ _).mono ?_; rintro e w' ⟨rfl, rfl⟩))
  go_wp2_with fail
  refine HK.out _ _ ?_
  go_ret2
  refine qend_no HBC.out HT z1 (by omega) ?_
  repeat' (first | exact Kept.refl _ _ | apply Kept.drew | apply Kept.alloc)

end Go.Proofs.YtpjfmfaijcbopaaGreatDoor
