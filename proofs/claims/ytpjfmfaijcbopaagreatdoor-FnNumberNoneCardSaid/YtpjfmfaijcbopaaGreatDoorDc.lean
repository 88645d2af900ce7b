/- internal/strconv.decimal in memory; trim. -/
import Derived.Test.YtpjfmfaijcbopaaGreatDoorPfc
namespace Go.Proofs.YtpjfmfaijcbopaaGreatDoor
open Go.RowKit Go.Proofs

/-- A decimal: its bytes, how many of them count, the point's place, the sign, whether something was cut. -/
structure Dec where
  ds : List Nat
  nd : Nat
  dp : Int
  ng : Bool
  tr : Bool
def Dec.cells (d : Dec) : List Value := d.ds.map (fun n : Nat => Value.int .u8 (n : Int)) ++ [.int .i64 d.nd, .int .i64 d.dp, .bool d.ng, .bool d.tr]
/-- It lies at a block. -/
structure DecAt (w : World) (b : Nat) (d : Dec) : Prop where
  blk : Blk w b d.cells 211
  len : d.ds.length = 800
def Dec.b (d : Dec) (i : Nat) : Nat := d.ds.getD i 0

theorem DecAt.lt {w : World} {b : Nat} {d : Dec} (h : DecAt w b d) : b < w.heap.size := h.blk.lt
theorem DecAt.free {w : World} {b : Nat} {d : Dec} (h : DecAt w b d) (i : Nat) : w.frozen? ⟨b, i, none⟩ = false := h.blk.free i
theorem DecAt.cd {w : World} {b : Nat} {d : Dec} (h : DecAt w b d) (i : Nat) (hi : i < 800) : w.cell? ⟨b, i, none⟩ = some (.int .u8 (d.b i)) := by
  refine h.blk.cell i _ ?_
  have hl := h.len
  unfold Dec.cells Dec.b
  rw [List.getElem?_append_left (by simp; omega), List.getElem?_map, List.getD, List.getElem?_eq_getElem (by omega)]
  rfl
theorem DecAt.tail {w : World} {b : Nat} {d : Dec} (h : DecAt w b d) (j : Nat) (v : Value) (hv : [Value.int .i64 d.nd, .int .i64 d.dp, .bool d.ng, .bool d.tr][j]? = some v) : w.cell? ⟨b, 800 + j, none⟩ = some v := by
  refine h.blk.cell _ _ ?_
  have hl := h.len
  unfold Dec.cells
  rw [List.getElem?_append_right (by simp; omega)]
  simp only [List.length_map, hl]
  rw [show 800 + j - 800 = j by omega]
  exact hv
theorem DecAt.cnd {w : World} {b : Nat} {d : Dec} (h : DecAt w b d) : w.cell? ⟨b, 800, none⟩ = some (.int .i64 d.nd) := h.tail 0 _ rfl
theorem DecAt.cdp {w : World} {b : Nat} {d : Dec} (h : DecAt w b d) : w.cell? ⟨b, 801, none⟩ = some (.int .i64 d.dp) := h.tail 1 _ rfl
theorem DecAt.cng {w : World} {b : Nat} {d : Dec} (h : DecAt w b d) : w.cell? ⟨b, 802, none⟩ = some (.bool d.ng) := h.tail 2 _ rfl
theorem DecAt.ctr {w : World} {b : Nat} {d : Dec} (h : DecAt w b d) : w.cell? ⟨b, 803, none⟩ = some (.bool d.tr) := h.tail 3 _ rfl
theorem DecAt.drew {w : World} {b : Nat} {d : Dec} (h : DecAt w b d) : DecAt w.drew b d := ⟨h.blk.drew, h.len⟩
theorem DecAt.heap {w w' : World} {b : Nat} {d : Dec} (h : DecAt w b d) (e : w'.heap = w.heap) : DecAt w' b d := ⟨by unfold Blk; rw [e]; exact h.blk, h.len⟩
theorem DecAt.setd {w : World} {b : Nat} {d : Dec} (h : DecAt w b d) (i : Nat) (hi : i < 800) (v : Nat) : DecAt (w.setCell ⟨b, i, none⟩ (.int .u8 v)) b { d with ds := d.ds.set i v } := by
  have hl := h.len
  refine ⟨?_, by simpa using h.len⟩
  have := h.blk.set i (.int .u8 v)
  unfold Dec.cells at *
  rw [List.set_append_left _ _ (by simp; omega)] at this
  simpa [List.map_set] using this
theorem DecAt.sett {w : World} {b : Nat} {d d' : Dec} (h : DecAt w b d) (j : Nat) (v : Value) (hd : d'.ds = d.ds)
    (hv : [Value.int .i64 d.nd, .int .i64 d.dp, .bool d.ng, .bool d.tr].set j v = [Value.int .i64 d'.nd, .int .i64 d'.dp, .bool d'.ng, .bool d'.tr]) : DecAt (w.setCell ⟨b, 800 + j, none⟩ v) b d' := by
  have hl := h.len
  refine ⟨?_, by rw [hd]; exact h.len⟩
  have := h.blk.set (800 + j) v
  unfold Dec.cells at *
  rw [List.set_append_right _ _ (by simp; omega)] at this
  simp only [List.length_map, hl] at this
  rw [show 800 + j - 800 = j by omega, hv, ← hd] at this
  exact this
theorem DecAt.setnd {w : World} {b : Nat} {d : Dec} (h : DecAt w b d) (n : Nat) : DecAt (w.setCell ⟨b, 800, none⟩ (.int .i64 n)) b { d with nd := n } := h.sett 0 _ rfl rfl
theorem DecAt.setdp {w : World} {b : Nat} {d : Dec} (h : DecAt w b d) (n : Int) : DecAt (w.setCell ⟨b, 801, none⟩ (.int .i64 n)) b { d with dp := n } := h.sett 1 _ rfl rfl
theorem DecAt.setng {w : World} {b : Nat} {d : Dec} (h : DecAt w b d) (n : Bool) : DecAt (w.setCell ⟨b, 802, none⟩ (.bool n)) b { d with ng := n } := h.sett 2 _ rfl rfl
theorem DecAt.settr {w : World} {b : Nat} {d : Dec} (h : DecAt w b d) (n : Bool) : DecAt (w.setCell ⟨b, 803, none⟩ (.bool n)) b { d with tr := n } := h.sett 3 _ rfl rfl

/-- What trim leaves: m digits. -/
def Dec.cut (d : Dec) (m : Nat) : Dec := { d with nd := m, dp := if m = 0 then 0 else d.dp }

set_option maxRecDepth 100000 in
set_option maxHeartbeats 4000000 in
theorem trim233 (b : Nat) (d : Dec) (w : World) (h : DecAt w b d) (hn : d.nd ≤ 800) :
    Calls Tryz.prog 233 #[.pointer (some ⟨b, 0, none⟩)] w fun e w' => e = .returned (.tuple #[]) ∧ (∃ m, m ≤ d.nd ∧ (∀ j, j < d.nd → d.b j ≠ 48 → j < m) ∧ DecAt w' b (d.cut m)) ∧ Below b w w' := by
  have H := Lib.hid h
  clear h
  go_enter Tryz.func233, Tryz.ntmps233
  go_wp2_with fail
  go_loopw [] (fun wr => ∃ m : Nat, m ≤ d.nd ∧ Hid (∀ j, j < d.nd → d.b j ≠ 48 → j < m) ∧ Hid (DecAt wr b { d with nd := m }) ∧ Hid (Below b w wr)) (fun wr => match wr.cell? ⟨b, 800, none⟩ with | some (.int _ n) => n.toNat | _ => 0)
  case atStart => exact ⟨d.nd, Nat.le_refl _, Lib.hid (fun j hj _ => hj), Lib.hid H.out, Lib.hid (Below.refl _ _)⟩
  case round =>
    obtain ⟨m, hm, HJ, HD, HB⟩ := hrel
    rcases Nat.eq_zero_or_pos m with rfl | hpos
    · have c0 : wr.cell? ⟨b, 800, none⟩ = some (.int .i64 0) := HD.out.cnd
      have c1 : wr.cell? ⟨b, 801, none⟩ = some (.int .i64 d.dp) := HD.out.cdp
      have f1 : wr.frozen? ⟨b, 801, none⟩ = false := HD.out.free 801
      go_wp2_with fail
      go_quiet (fail)
      have c0' : (wr.drewN nq).cell? ⟨b, 800, none⟩ = some (.int .i64 0) := c0
      have c1' : (wr.drewN nq).cell? ⟨b, 801, none⟩ = some (.int .i64 d.dp) := c1
      have f1' : (wr.drewN nq).frozen? ⟨b, 801, none⟩ = false := f1
      have HD2 : Hid (DecAt (wr.drewN nq) b { d with nd := 0 }) := Lib.hid (HD.out.heap rfl)
      have HB2 : Hid (Below b w (wr.drewN nq)) := Lib.hid (below_drewN HB.out nq)
      generalize wr.drewN nq = w2 at *
      go_wp2_with fail
      go_end0
      exact ⟨rfl, ⟨0, hm, HJ.out, HD2.out.setdp 0⟩, HB2.out.setCell (p := ⟨b, 801, none⟩) (Nat.le_refl _) _⟩
    · obtain ⟨k, rfl⟩ : ∃ k, m = k + 1 := ⟨m - 1, by omega⟩
      have c0 : wr.cell? ⟨b, 800, none⟩ = some (.int .i64 (k + 1)) := HD.out.cnd
      have c1 : wr.cell? ⟨b, k, none⟩ = some (.int .u8 (d.b k)) := HD.out.cd k (by omega)
      have f0 : wr.frozen? ⟨b, 800, none⟩ = false := HD.out.free 800
      have hg : (0 : Int) < (k : Int) + 1 := by omega
      have hk8 : k < 800 := by omega
      obtain ⟨v, hv⟩ : ∃ v, d.b k = v := ⟨_, rfl⟩
      rw [hv] at c1
      have HV := Lib.hid hv
      clear hv
      go_wp2_with fail
      go_quiet (fail)
      have c0' : (wr.drewN nq).cell? ⟨b, 800, none⟩ = some (.int .i64 (k + 1)) := c0
      have f0' : (wr.drewN nq).frozen? ⟨b, 800, none⟩ = false := f0
      have HD2 : Hid (DecAt (wr.drewN nq) b { d with nd := k + 1 }) := Lib.hid (HD.out.heap rfl)
      have HB2 : Hid (Below b w (wr.drewN nq)) := Lib.hid (below_drewN HB.out nq)
      generalize wr.drewN nq = w2 at *
      have hz : ((k : Int) + 1 == 0) = false := by rw [beq_eq_false_iff_ne]; omega
      go_wp2_with fail
      · rename_i he
        have he' : v = 48 := by have := beq_iff_eq.1 he; omega
        have hsame : (w2.setCell ⟨b, 800, none⟩ (.int .i64 k)).cell? ⟨b, 800, none⟩ = some (.int .i64 k) := (HD2.out.setnd k).cnd
        refine ⟨⟨k, by omega, Lib.hid (fun j hj hne => ?_), Lib.hid (HD2.out.setnd k), Lib.hid (HB2.out.setCell (p := ⟨b, 800, none⟩) (Nat.le_refl _) _)⟩, ?_⟩
        · have h1 := HJ.out j hj hne
          rcases Nat.lt_or_ge j k with h2 | h2
          · exact h2
          · obtain rfl : j = k := by omega
            exact absurd (HV.out.trans he') hne
        · rw [hsame, c0]
          show (k : Int).toNat < ((k : Int) + 1).toNat
          omega
      · go_end0
        refine ⟨rfl, ⟨k + 1, hm, HJ.out, ?_⟩, HB2.out⟩
        have : d.cut (k + 1) = { d with nd := k + 1 } := by unfold Dec.cut; simp
        rw [this]
        exact HD2.out
end Go.Proofs.YtpjfmfaijcbopaaGreatDoor
