/- The scanner's lower calls that scanComment makes: existsBuffer, previousChar, progressLine, the slice of the source. -/
import Derived.Test.YtpjfmfaijcbopaaGreatDoorObuf
import Derived.Test.YtpjfmfaijcbopaaGreatDoorSpecB
namespace Go.Proofs.YtpjfmfaijcbopaaGreatDoor
open Go.RowKit

set_option maxHeartbeats 1000000 in
theorem existsBuffer (sb cb : Nat) (s : S) (w : World) (h : St w sb cb s) (hb : s.buf = .slice none 0 0) (hn : s.nsp = 0) :
    Calls Tryz.prog 110 #[.pointer (some ⟨cb, 0, none⟩)] w fun e w' => e = .returned (.bool false) ∧ Dr w w' := by
  have x5 := h.cx.cell 5 _ rfl
  have x2 := h.cx.cell 2 _ rfl
  have x8 := h.cx.cell 8 _ rfl
  rw [hb] at x5
  rw [hn] at x2
  clear h hb hn
  go_enter Tryz.func110, Tryz.ntmps110
  go_wp2
  go_quiet (fail)
  go_wp2
  go_ret
  exact ⟨rfl, (Dr.refl w).drewN _⟩

set_option maxHeartbeats 1000000 in
theorem previousChar (sb cb : Nat) (s : S) (rb n cap : Nat) (c : Int) (w : World) (h : St w sb cb s) (hi : s.idx = 1) (hsrc : s.csrc = .slice (some ⟨rb, 0, none⟩) (n + 1) cap)
    (hc : w.cell? ⟨rb, 0, none⟩ = some (.int .i32 c)) :
    Calls Tryz.prog 111 #[.pointer (some ⟨cb, 0, none⟩)] w fun e w' => e = .returned (.int .i32 c) ∧ Dr w w' := by
  have x0 := h.cx.cell 0 _ rfl
  have x4 := h.cx.cell 4 _ rfl
  rw [hi] at x0
  rw [hsrc] at x4
  have i1 : (0 : Int) < ((n : Int) + 1) := by omega
  clear h hi hsrc
  go_enter Tryz.func111, Tryz.ntmps111
  go_wp2
  go_quiet (fail)
  go_wp2
  go_ret
  exact ⟨rfl, (Dr.refl w).drewN _⟩

def ProgLine (sb cb : Nat) (s : S) (w w' : World) : Prop :=
  ∃ line off, St w' sb cb { s with idx := s.idx + 1, pos := s.pos + 1, pind := s.ind, col := 1, line := line, off := off, ind := 0, first := true } ∧ Kept (fun k => k = sb ∨ k = cb) w w'
set_option maxHeartbeats 2000000 in
theorem progLine (sb cb : Nat) (s : S) (w : World) (h : St w sb cb s) (hi : 0 ≤ s.idx) (hp : 0 ≤ s.pos) (hi1 : s.idx + 1 < 9223372036854775807) (hp1 : s.pos + 1 < 9223372036854775807) :
    Calls Tryz.prog 116 #[.pointer (some ⟨sb, 0, none⟩), .pointer (some ⟨cb, 0, none⟩)] w fun e w' => e = .returned (.tuple #[]) ∧ ProgLine sb cb s w w' := by
  have c7 := h.sc.cell 7 _ rfl
  have c8 := h.sc.cell 8 _ rfl
  have c4 := h.sc.cell 4 _ rfl
  have c3 := h.sc.cell 3 _ rfl
  have c5 := h.sc.cell 5 _ rfl
  have c10 := h.sc.cell 10 _ rfl
  have c11 := h.sc.cell 11 _ rfl
  have c12 := h.sc.cell 12 _ rfl
  have c13 := h.sc.cell 13 _ rfl
  have f7 := h.sc.free 7
  have f8 := h.sc.free 8
  have f4 := h.sc.free 4
  have f3 := h.sc.free 3
  have f5 := h.sc.free 5
  have f10 := h.sc.free 10
  have f11 := h.sc.free 11
  have f12 := h.sc.free 12
  have f13 := h.sc.free 13
  have H := Lib.hid h
  clear h
  go_enter Tryz.func116, Tryz.ntmps116
  go_wp2_with fail
  have h2 := ((((((((H.out.setSc (s' := { s with pind := s.ind }) 8 (.int .i64 s.ind) rfl rfl).setSc (s' := { s with pind := s.ind, col := 1 }) 4 (.int .i64 1) rfl rfl).setSc
    (s' := { s with pind := s.ind, col := 1, line := wrap64 (s.line + 1) }) 3 (.int .i64 (wrap64 (s.line + 1))) rfl rfl).setSc
    (s' := { s with pind := s.ind, col := 1, line := wrap64 (s.line + 1), off := wrap64 (s.off + 1) }) 5 (.int .i64 (wrap64 (s.off + 1))) rfl rfl).setSc
    (s' := { s with pind := s.ind, col := 1, line := wrap64 (s.line + 1), off := wrap64 (s.off + 1), ind := 0 }) 7 (.int .i64 0) rfl rfl).setSc
    (s' := { s with pind := s.ind, col := 1, line := wrap64 (s.line + 1), off := wrap64 (s.off + 1), ind := 0, first := true }) 10 (.bool true) rfl rfl).setSc
    (s' := { s with pind := s.ind, col := 1, line := wrap64 (s.line + 1), off := wrap64 (s.off + 1), ind := 0, first := true }) 11 (.bool false) rfl rfl).setSc
    (s' := { s with pind := s.ind, col := 1, line := wrap64 (s.line + 1), off := wrap64 (s.off + 1), ind := 0, first := true }) 12 (.bool false) rfl rfl).setSc
    (s' := { s with pind := s.ind, col := 1, line := wrap64 (s.line + 1), off := wrap64 (s.off + 1), ind := 0, first := true }) 13 (.bool false) rfl rfl
  have K2 := (((((((((Kept.refl (fun k => k = sb) w).one 8 (.int .i64 s.ind)).one 4 (.int .i64 1)).one 3 (.int .i64 (wrap64 (s.line + 1)))).one 5 (.int .i64 (wrap64 (s.off + 1)))).one 7 (.int .i64 0)).one 10 (.bool true)).one 11 (.bool false)).one 12 (.bool false)).one 13 (.bool false)
  have c := progress sb cb { s with pind := s.ind, col := 1, line := wrap64 (s.line + 1), off := wrap64 (s.off + 1), ind := 0, first := true } 1 _ h2 hi hp (by omega) hi1 hp1
  refine c.mono ?_
  rintro e w' ⟨rfl, hp2⟩
  have HP := Lib.hid hp2
  have HK := Lib.hid K2
  clear hp2 K2 c h2
  go_wp2
  go_end0
  exact ⟨rfl, _, _, HP.out.1, (HK.out.mono (fun k _ hk => .inl hk)).trans HP.out.2⟩

/-- Where a slice that begins at a place a of a row begins: at cap = a the row's own address stays. -/
def cut (rb cap a : Nat) : Addr := if cap = a then ⟨rb, 0, none⟩ else ⟨rb, a, none⟩

theorem slice_ab (rb n cap a b : Nat) (w : World) (hab : a ≤ b) (hb : b ≤ cap) :
    (Instr.slice 27 (.slice (some ⟨rb, 0, none⟩) n cap) (some (.int .i64 a)) (some (.int .i64 b)) none).run Tryz.prog w = .ok (.slice (some (cut rb cap a)) (b - a) (cap - a)) w := by
  have hs := run_slice_lh (P := Tryz.prog) (w := w) 27 (some ⟨rb, 0, none⟩) n cap (by kernel_rfl) .i64 .i64 a b (by omega) (by omega) (by omega)
  rw [hs]
  have hz : (sizeOf (Tryz.prog.elem 27)).run Tryz.prog w = .ok 1 w := by kernel_rfl
  rw [hz]
  simp only [Result.andThen, sliced, Int.toNat_natCast]
  unfold cut
  by_cases h : cap = a
  · simp [h]
  · simp only [h, if_false, Option.map_some]
    rw [Nat.mul_one]
    unfold Addr.add
    simp
    try omega
theorem slice_from (rb n cap a : Nat) (w : World) (hab : a ≤ n) :
    (Instr.slice 27 (.slice (some ⟨rb, 0, none⟩) n cap) (some (.int .i64 a)) none none).run Tryz.prog w = .ok (.slice (some (cut rb cap a)) (n - a) (cap - a)) w := by
  have hs := run_slice_l (P := Tryz.prog) (w := w) 27 (some ⟨rb, 0, none⟩) n cap (by kernel_rfl) .i64 a (by omega) (by omega)
  rw [hs]
  have hz : (sizeOf (Tryz.prog.elem 27)).run Tryz.prog w = .ok 1 w := by kernel_rfl
  rw [hz]
  simp only [Result.andThen, sliced, Int.toNat_natCast]
  unfold cut
  by_cases h : cap = a
  · simp [h]
  · simp only [h, if_false, Option.map_some]
    rw [Nat.mul_one]
    unfold Addr.add
    simp
    try omega

/-- A part of a row of runes as a string. -/
theorem conv_cut (rb cap : Nat) (rs : List Int) (a m c : Nat) (w : World) (hr : ∀ i, i < rs.length → w.cell? ⟨rb, i, none⟩ = some (.int .i32 (rs.getD i 0))) (hm : a + m ≤ rs.length) (hcap : rs.length ≤ cap) :
    (convert 27 9 (.slice (some (cut rb cap a)) m c)).run Tryz.prog w = .ok (.string (runesBytes ((rs.drop a).take m))) w := by
  have := run_convert_runes (P := Tryz.prog) w 27 9 21 (cut rb cap a) m c ((rs.drop a).take m) (by simp; omega) Tryz.underlying27 Tryz.underlying21 Tryz.underlying9 (fun j hj => by
    rw [List.length_take, List.length_drop] at hj
    have hj1 : j < m := Nat.lt_of_lt_of_le hj (Nat.min_le_left _ _)
    have hne : cap ≠ a := by omega
    have h1 := hr (a + j) (by omega)
    have e1 : (cut rb cap a).add j = ⟨rb, a + j, none⟩ := by
      unfold cut
      rw [if_neg hne]
      simp [Addr.add]
    have e2 : ((rs.drop a).take m).getD j 0 = rs.getD (a + j) 0 := by
      simp only [List.getD, List.getElem?_take, List.getElem?_drop]
      rw [if_pos hj1]
    rw [e1, e2]
    exact h1)
  rw [this, List.take_take, Nat.min_self]

/-- The runes of a place: what string(src[a:b]) is. -/
theorem source115 (sb cb : Nat) (s : S) (rb cap : Nat) (rs : List Int) (a b : Nat) (w : World) (h : St w sb cb s) (hsrc : s.csrc = .slice (some ⟨rb, 0, none⟩) rs.length cap)
    (hr : ∀ i, i < rs.length → w.cell? ⟨rb, i, none⟩ = some (.int .i32 (rs.getD i 0))) (hab : a ≤ b) (hb : b ≤ rs.length) (hcap : rs.length ≤ cap) :
    Calls Tryz.prog 115 #[.pointer (some ⟨cb, 0, none⟩), .int .i64 a, .int .i64 b] w fun e w' => e = .returned (.string (runesBytes ((rs.drop a).take (b - a)))) ∧ w = w' := by
  have x4 := h.cx.cell 4 _ rfl
  rw [hsrc] at x4
  have hcv := conv_cut rb cap rs a (b - a) (cap - a) w hr (by omega) hcap
  have hsl := slice_ab rb rs.length cap a b w hab (by omega)
  obtain ⟨A, hA⟩ : ∃ A, cut rb cap a = A := ⟨_, rfl⟩
  rw [hA] at hcv hsl
  clear h hsrc hr hA
  go_enter Tryz.func115, Tryz.ntmps115
  go_wp2
  go_ret
  exact ⟨rfl, rfl⟩
end Go.Proofs.YtpjfmfaijcbopaaGreatDoor
