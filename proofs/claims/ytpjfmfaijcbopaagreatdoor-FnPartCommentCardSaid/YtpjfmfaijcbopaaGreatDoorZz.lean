/- impl.ScanComment over a text that begins with a comment. -/
import Derived.Test.YtpjfmfaijcbopaaGreatDoorComB
import Derived.Test.YtpjfmfaijcbopaaGreatDoorList
namespace Go.Proofs.YtpjfmfaijcbopaaGreatDoor
open Go.RowKit

/-- The text begins with a comment of k runes. -/
structure IsCom (rs : List Int) (k : Nat) : Prop where
  h0 : rs.getD 0 0 = 35
  hk : k ≤ 2000
  hkl : 1 + k ≤ rs.length
  hno : ∀ j, j < k → rs.getD (1 + j) 0 ≠ 10 ∧ rs.getD (1 + j) 0 ≠ 13
  hend : 1 + k < rs.length → rs.getD (1 + k) 0 = 10 ∨ rs.getD (1 + k) 0 = 13
  hval : (runes (runesBytes ((rs.drop 1).take k))).length = k
  hvs : (runesBytes ((rs.drop 1).take k)).size ≤ 70368744177664

def ZzEnd (val : ByteArray) (passed : Int) (e : Ending) (w w' : World) : Prop :=
  ∃ g c tb pb org ps, e = .returned (.tuple #[.slice (some ⟨g, 0, none⟩) 1 c, .int .i64 passed]) ∧ w'.cell? ⟨g, 0, none⟩ = some (.pointer (some ⟨tb, 0, none⟩)) ∧
    Blk w' tb (tokCells 12 0 3 val org (.pointer (some ⟨pb, 0, none⟩))) 108 ∧ Blk w' pb (posCells ps) 116 ∧ Below w.heap.size w w'

set_option maxHeartbeats 4000000 in
set_option maxRecDepth 100000 in
theorem zzComment (s : ByteArray) (k : Nat) (w : World) (hs : s.size ≤ 70368744177664) (h : IsCom (runes s) k) :
    Calls Tryz.prog 33 #[.string s] w fun e w' => ZzEnd (runesBytes (((runes s).drop 1).take k)) (k + 2) e w w' := by
  have hlen := runes_length s
  have hkl := h.hkl
  have HC := Lib.hid h
  have c1 := Lib.hid (zzAt s w hs)
  clear h
  obtain ⟨rs, hrs⟩ : ∃ rs, runes s = rs := ⟨_, rfl⟩
  rw [hrs] at hlen hkl HC c1 ⊢
  clear hrs
  obtain ⟨n, hn⟩ : ∃ n, rs.length = n := ⟨_, rfl⟩
  have hp : (0 : Int) < (n : Int) := by omega
  go_enter Tryz.func33, Tryz.ntmps33
  go_wp2_with fail
  refine c1.out.mono ?_
  rintro e w1 ⟨cap, rfl, hb1, hr, hcap⟩
  have s0 := hr.sc.cell 0 _ rfl
  rw [hn] at s0
  have hz := hr.size
  have HR := Lib.hid hr
  have HB1 := Lib.hid hb1
  clear hr hb1
  go_wp2_with fail
  have c2 := scanComment w.heap.size cap rs k w1 HR.out hcap (by omega) HC.out.h0 HC.out.hk HC.out.hkl HC.out.hno HC.out.hend HC.out.hval HC.out.hvs
  refine c2.mono ?_
  rintro e w2 ⟨rfl, s', g, c, tb, pb, org, ps, hst, hpos, htk, hg, htb, hpb, hb2⟩
  have s1 := hst.sc.cell 1 _ rfl
  have x7 := hst.cx.cell 7 _ rfl
  rw [hpos] at s1
  rw [htk] at x7
  have HTB := Lib.hid htb
  have HPB := Lib.hid hpb
  have HG := Lib.hid hg
  have HB2 := Lib.hid hb2
  clear htb hpb hb2 hst hpos htk hg c2
  go_wp2
  go_region_held3 (fun w' => w'.cell? ⟨w.heap.size, 1, none⟩ = some (.int .i64 (k + 2)) ∧ w'.cell? ⟨w.heap.size + 3, 7, none⟩ = some (.slice (some ⟨g, 0, none⟩) 1 c)) (go_keep) (fail)
  go_wp2
  refine bodyPost_ret (v := .tuple #[.slice (some ⟨g, 0, none⟩) 1 c, .int .i64 (k + 2)]) (by simp [results, Tryz.results33, go_sem]) rfl ?_
  exact ⟨g, c, tb, pb, org, ps, rfl, HG.out, HTB.out.drew, HPB.out.drew, (HB1.out.trans HB2.out).drew⟩

/-- The token that the rows tell of. -/
def ScEnd (val : ByteArray) (passed : Int) (e : Ending) (w w' : World) : Prop :=
  ∃ g c org a b d f h, e = .returned (.tuple #[.slice (some ⟨g, 0, none⟩) 1 c, .int .i64 passed]) ∧ (∀ j u, (tokOut 12 0 3 val org ⟨#[]⟩ a b d f h)[j]? = some u → w'.cell? ⟨g, j, none⟩ = some u) ∧ Below w.heap.size w w'

set_option maxHeartbeats 4000000 in
theorem scanImpl (s : ByteArray) (k : Nat) (w : World) (hs : s.size ≤ 70368744177664) (h : IsCom (runes s) k) :
    Calls Tryz.prog 16 #[.string s] w fun e w' => ScEnd (runesBytes (((runes s).drop 1).take k)) (k + 2) e w w' := by
  have c1 := Lib.hid (zzComment s k w hs h)
  clear h
  generalize runesBytes (((runes s).drop 1).take k) = val at c1 ⊢
  go_enter Tryz.func16, Tryz.ntmps16
  go_wp2_with fail
  refine c1.out.mono ?_
  rintro e w1 ⟨g, c, tb, pb, org, ps, rfl, hg, htb, hpb, hb1⟩
  clear c1
  have HTB := Lib.hid htb
  have HPB := Lib.hid hpb
  have HG := Lib.hid hg
  have HB1 := Lib.hid hb1
  clear htb hpb hb1 hg
  go_wp2_with fail
  have c2 := list1 g c tb pb 12 0 3 val org ⟨#[]⟩ ps.line ps.col ps.off ps.ind ps.lvl w1 HG.out HTB.out HPB.out
  refine c2.mono ?_
  rintro e w2 ⟨g2, cc, rfl, hge, hcells, hb2⟩
  have HCC := Lib.hid hcells
  have HB2 := Lib.hid hb2
  clear hcells hb2 c2
  go_wp2
  refine bodyPost_ret (v := .tuple #[.slice (some ⟨g2, 0, none⟩) 1 cc, .int .i64 (k + 2)]) (by simp [results, Tryz.results16, go_sem]) rfl ?_
  exact ⟨g2, cc, org, _, _, _, _, _, rfl, HCC.out, HB1.out.trans (HB2.out.mono HB1.out.size)⟩
end Go.Proofs.YtpjfmfaijcbopaaGreatDoor
