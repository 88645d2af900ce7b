/- The loop of scanDoubleQuote: the end. -/
import Derived.Test.YtpjfmfaijcbopaaGreatDoorQb
namespace Go.Proofs.YtpjfmfaijcbopaaGreatDoor
open Go.RowKit Go.Proofs

theorem qend_yes {B n tb pb : Nat} {ty : Int} {T : Option (List Int)} {acc : List Int} {w0 wC w' : World} {x : Int} {org : ByteArray} (hb : Below B w0 wC) (hT : Hid (T = some acc)) (hx : wC.cell? ⟨B, 1, none⟩ = some (.int .i64 x)) (hn : x = ((n + 2 : Nat) : Int)) (hB : B ≤ wC.heap.size)
    (hp : ∃ ps, Blk wC pb (posCells ps) 116) (hk : Kept (fun _ => False) wC w') (ht : Blk w' tb (tokCells ty 0 6 (runesBytes acc) org (.pointer (some ⟨pb, 0, none⟩))) 108) : QEnd B ty n T w0 (.returned (.tuple #[.pointer (some ⟨tb, 0, none⟩), .nilIface])) w' := by
  obtain ⟨ps, hp⟩ := hp
  refine ⟨hb.trans (hk.below hB (fun _ _ h => h)), fun vals hv => ?_, fun h => (by rw [hT.out] at h; cases h)⟩
  rw [hT.out] at hv
  cases hv
  exact ⟨tb, pb, org, ps, rfl, ht, hk.blk hp (fun h => h), by rw [← hn]; exact hk.cell hx (fun h => h)⟩

set_option maxRecDepth 1000000 in
set_option maxHeartbeats 16000000 in
theorem qd_end {B pb cap : Nat} {rs ls : List Int} {T : Option (List Int)} {s : S} {w3 : World} {w0 : World} (HC : Hid (QdC B pb cap rs ls T s w3)) (HB0 : Hid (Below B w0 w3)) (j no gv cv : Nat) (acc : List Int) (g : Nat → Value) (wr : World) (hj : j = ls.length) (hnoj : no ≤ 2 * j) (_hal : acc.length ≤ j)
    (HQ0 : Hid (QSt B (B + 1) pb s w3 j no acc gv cv wr)) (HR : Hid (RdRel ls j false acc))
    (K : Act → World → Prop) (Q0 : Exit → Act → World → Prop) (HK : Hid (∀ a' w', bodyPost Tryz.prog Tryz.f99 (QEnd B 19 ls.length T w0) .ret a' w' → Q0 .ret a' w')) :
    Code.wp Tryz.prog qdBody (Exit.then K Q0) ⟨qdFr B pb rs.length cap (.slice (some ⟨gv, 0, none⟩) acc.length cv) (.int .i64 ((j : Int) + 1)) g, []⟩ wr := by
  have HL : Hid (Lie B (B + 1) pb w3) := Lib.hid HC.out.lie
  have hlen := HC.out.quo.len
  have hmost := HC.out.quo.most
  have hbig := HC.out.quo.big
  have hcap := HC.out.cap
  have hs1 : (j : Int) + 1 < (rs.length : Int) := by omega
  have hs2 : (j : Int) + 2 ≤ (rs.length : Int) := by omega
  have HC0 : Hid (w3.cell? ⟨B + 1, j + 1, none⟩ = some (.int .i32 34)) := Lib.hid (by
    have := HC.out.run (1 + j) (by omega)
    have h2 := HC.out.quo.last; rw [← hj] at h2; rw [h2, Nat.add_comm 1 j] at this
    exact this)
  have hjm : j ≤ 1000 := by omega
  have HJ := Lib.hid hj
  clear hj
  have hTe := HR.out.fin (by have := HJ.out; omega)
  rw [HC.out.dq] at hTe
  have HT : Hid (T = some acc) := Lib.hid (by simpa using hTe)
  clear hTe HR
  unfold qdFr
  conv => arg 2; whnf
  go_wp2_with fail
  refine (QSt.prog1 HL.out HQ0.out (by omega)).mono ?_
  rintro e wA ⟨rfl, hqa⟩
  have HQA := Lib.hid hqa
  have ca := hqa.rune HC0.out
  clear hqa HQ0
  go_wp2_with fail
  refine (QSt.add HL.out _ HQA.out (by omega)).mono ?_
  rintro e wB ⟨rfl, hqb⟩
  have HQB := Lib.hid hqb
  clear hqb HQA ca
  go_wp2_with fail
  refine (isNewLine' _ _ false rfl _).mono ?_
  rintro e w' ⟨rfl, rfl⟩
  go_wp2_with fail
  refine (QSt.prog1 HL.out HQB.out (by omega)).mono ?_
  rintro e wC ⟨rfl, hqc⟩
  have HBC : Hid (Below B w0 wC) := Lib.hid (HB0.out.trans (hqc.below HL.out))
  have HPB : Hid (∃ ps, Blk wC pb (posCells ps) 116) := Lib.hid (by obtain ⟨ps, hps⟩ := HC.out.pos; exact ⟨ps, hqc.pos hps⟩)
  have HKV : Hid (∀ w', Kept (fun _ => False) wC w' → (convert 27 9 (.slice (some ⟨gv, 0, none⟩) acc.length cv)).run Tryz.prog w' = .ok (.string (runesBytes acc)) w') := Lib.hid (fun w' hk => convOwn (hk.owns hqc.val (fun _ _ h => h)))
  obtain ⟨g', c', nso, l, col, off, hqq⟩ := hqc
  have z6 := hqq.st.cx.cell 6 _ rfl
  have z1 := hqq.st.sc.cell 1 _ rfl
  have lx := hqq.st.cx.lt
  have ls' := hqq.st.sc.lt
  obtain ⟨org, horg⟩ : ∃ o, runesBytes l = o := ⟨_, rfl⟩
  have HKO : Hid (∀ w', Kept (fun _ => False) wC w' → (convert 27 9 (.slice (some ⟨g', 0, none⟩) ((no + 1) + 1) c')).run Tryz.prog w' = .ok (.string org) w') := Lib.hid (fun w' hk => by rw [← horg]; exact convOwn (hk.owns hqq.own (fun _ _ h => h)))
  have HST := Lib.hid hqq.st
  have kc := HKO.out wC (Kept.refl _ _)
  have kv := HKV.out wC (Kept.refl _ _)
  simp only [] at z6 z1
  clear hqq horg HQB
  have HS : Hid (∀ w', Kept (fun _ => False) wC w' → (w'.cell? ⟨B + 3, 6, none⟩ = some (.slice (some ⟨g', 0, none⟩) (no + 1 + 1) c') ∧ (convert 27 9 (.slice (some ⟨g', 0, none⟩) (no + 1 + 1) c')).run Tryz.prog w' = .ok (.string org) w' ∧ (convert 27 9 (.slice (some ⟨gv, 0, none⟩) acc.length cv)).run Tryz.prog w' = .ok (.string (runesBytes acc)) w')) := Lib.hid (fun w' hk => ⟨hk.cell z6 (fun h => h), HKO.out w' hk, HKV.out w' hk⟩)
  go_wp2_with fail
  go_region_held3 (fun w' => w'.cell? ⟨B + 3, 6, none⟩ = some (.slice (some ⟨g', 0, none⟩) (no + 1 + 1) c') ∧ (convert 27 9 (.slice (some ⟨g', 0, none⟩) (no + 1 + 1) c')).run Tryz.prog w' = .ok (.string org) w' ∧ (convert 27 9 (.slice (some ⟨gv, 0, none⟩) acc.length cv)).run Tryz.prog w' = .ok (.string (runesBytes acc)) w')
    ((refine HS.out _ ?_; repeat' (first | exact Kept.refl _ _ | apply Kept.drew | apply Kept.alloc)))
    (first
      | (go_at_call 79; refine (dquoteTok _ _ _ _).mono ?_; rintro e w' ⟨rfl, rfl⟩))
  go_wp2_with fail
  refine HK.out _ _ ?_
  go_ret2
  have hn := HJ.out
  refine qend_yes (org := org) HBC.out HT z1 (by omega) (by omega) HPB.out ?_ ?_
  · repeat' (first | exact Kept.refl _ _ | apply Kept.drew | apply Kept.alloc)
  · first | exact Blk.new _ _ _ | exact (Blk.new _ _ _).drew

end Go.Proofs.YtpjfmfaijcbopaaGreatDoor
