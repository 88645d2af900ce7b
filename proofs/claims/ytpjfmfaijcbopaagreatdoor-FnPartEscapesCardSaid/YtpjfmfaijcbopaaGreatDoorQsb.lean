/- The loop of scanSingleQuote: its body, its frame, what it holds. -/
import Derived.Test.YtpjfmfaijcbopaaGreatDoorQdE
namespace Go.Proofs.YtpjfmfaijcbopaaGreatDoor
open Go.RowKit Go.Proofs

noncomputable def qsBody : Code := ((Tryz.f100.body.bind firstLoop).getD .skip)
/-- The frame: the slots that hold something are written out, all others are what g says. -/
def qsFr (B pb n cap : Nat) (v i : Value) (g : Nat → Value) : Array Value := #[.pointer (some ⟨B, 0, none⟩), .pointer (some ⟨B + 3, 0, none⟩), g 2, g 3, .pointer none, .nilIface, .pointer (some ⟨pb, 0, none⟩), .int .i64 1, .slice (some ⟨B + 1, 0, none⟩) n cap, .int .i64 n, v,
    .bool false, .bool false, i, g 14, g 15, g 16, g 17, g 18, g 19, g 20, g 21, g 22, g 23, g 24, g 25, g 26, g 27, g 28, g 29, g 30, g 31, g 32, g 33, g 34, g 35, g 36, g 37, g 38, g 39, g 40, g 41, g
    42, g 43, g 44, g 45, g 46, g 47, g 48, g 49, g 50, g 51, g 52, g 53, g 54, g 55, g 56, g 57, g 58, g 59, g 60, g 61, g 62, g 63, g 64, g 65, g 66, g 67, g 68, g 69, g 70, g 71, g 72, g 73, g 74, g
    75, g 76, g 77, g 78, g 79, g 80, g 81, g 82, g 83, g 84, g 85, g 86, g 87, g 88, g 89, g 90, g 91, g 92, g 93, g 94, g 95, g 96, g 97, g 98, g 99, g 100, g 101, g 102, g 103, g 104, g 105, g 106, g
    107, g 108, g 109, g 110, g 111, g 112, g 113, g 114, g 115, g 116, g 117, g 118, g 119, g 120, g 121, g 122, g 123, g 124, g 125, g 126, g 127, g 128, g 129, g 130, g 131, g 132, g 133, g 134, g 135,
    g 136, g 137, g 138, g 139, g 140, g 141, g 142, g 143, g 144, g 145, g 146, g 147, g 148, g 149, g 150, g 151, g 152, g 153, g 154, g 155, g 156, g 157, g 158, g 159, g 160, g 161, g 162, g 163, g
    164, g 165, g 166, g 167, g 168, g 169, g 170, g 171, g 172, g 173, g 174, g 175, g 176, g 177, g 178, g 179, g 180, g 181, g 182, g 183, g 184, g 185, g 186, g 187, g 188, g 189]

/-- What stays as it is in the loop. -/
structure QsC (B pb cap : Nat) (rs ls : List Int) (T : Option (List Int)) (s : S) (w3 : World) : Prop where
  lie : Lie B (B + 1) pb w3
  quo : Quo 39 rs ls
  sq : sq ls = T
  nx : ls.length + 2 < rs.length → rs.getD (ls.length + 2) 0 ≠ 39
  run : ∀ i, i < rs.length → w3.cell? ⟨B + 1, i, none⟩ = some (.int .i32 (rs.getD i 0))
  csrc : s.csrc = .slice (some ⟨B + 1, 0, none⟩) rs.length cap
  pos : ∃ ps, Blk w3 pb (posCells ps) 116
  cap : rs.length ≤ cap

/-- What the loop holds; the number: how many rounds are to come at most. -/
def QsI (B pb cap : Nat) (rs ls : List Int) (s : S) (w3 : World) (k : Nat) (a : Act) (wr : World) : Prop :=
  ∃ (j no gv cv : Nat) (acc : List Int) (g : Nat → Value), a = ⟨qsFr B pb rs.length cap (.slice (some ⟨gv, 0, none⟩) acc.length cv) (.int .i64 ((j : Int) + 1)) g, []⟩ ∧ k + j = ls.length ∧ no ≤ 2 * j ∧ acc.length ≤ j ∧
    QSt B (B + 1) pb s w3 j no acc gv cv wr ∧ RsRel ls j acc
theorem QsI.mk {B pb cap : Nat} {rs ls : List Int} {s : S} {w3 : World} {k : Nat} {t : Array Value} {wr : World} (j no gv cv : Nat) (acc : List Int)
    (ht : t = qsFr B pb rs.length cap (.slice (some ⟨gv, 0, none⟩) acc.length cv) (.int .i64 ((j : Int) + 1)) (fun k => t.getD k undef)) (hk : k + j = ls.length) (hno : no ≤ 2 * j) (ha : acc.length ≤ j)
    (hq : QSt B (B + 1) pb s w3 j no acc gv cv wr) (hr : RsRel ls j acc) : QsI B pb cap rs ls s w3 k ⟨t, []⟩ wr := ⟨j, no, gv, cv, acc, _, by rw [← ht], hk, hno, ha, hq, hr⟩
theorem QSt.csrc {B rb pb : Nat} {s0 : S} {w0 : World} {p no : Nat} {acc : List Int} {gv cv : Nat} {wr : World} (h : QSt B rb pb s0 w0 p no acc gv cv wr) : wr.cell? ⟨B + 3, 4, none⟩ = some s0.csrc := by
  obtain ⟨g, c, nso, l, col, off, hq⟩ := h
  exact hq.st.cx.cell 4 _ rfl
end Go.Proofs.YtpjfmfaijcbopaaGreatDoor
