/- Lemmas and contracts of functions of the program, for the statements of this seat: DocB. -/
import Derived.Test.YtpjfmfaijcbopaaGreatDoorDoc
namespace Go.Proofs.YtpjfmfaijcbopaaGreatDoor
open Go.RowKit

set_option maxHeartbeats 1000000 in
theorem progress155 (cb : Nat) (n m : Int) (w : World) (h0 : w.cell? ⟨cb, 0, none⟩ = some (.int .i64 n)) (hf : w.frozen? ⟨cb, 0, none⟩ = false) (hn : 0 ≤ n) (hm : 0 ≤ m) (hnm : n + m < 9223372036854775807) :
    Calls Tryz.prog 155 #[.pointer (some ⟨cb, 0, none⟩), .int .i64 m] w fun e w' => e = .returned (.tuple #[]) ∧ w' = w.setCell ⟨cb, 0, none⟩ (.int .i64 (n + m)) := by
  go_enter Tryz.func155, Tryz.ntmps155
  go_wp2
  go_end0
  exact ⟨rfl, rfl⟩

theorem St.setCx {w : World} {sb cb : Nat} {s s' : S} (h : St w sb cb s) (i : Nat) (v : Value) (h1 : s'.sc = s.sc) (h2 : s'.cx = s.cx.set i v) : St (w.setCell ⟨cb, i, none⟩ v) sb cb s' :=
  ⟨h1 ▸ h.sc.set_other _ (fun e => h.ne e.symm) _, h2 ▸ h.cx.set i v⟩
theorem St.setSc {w : World} {sb cb : Nat} {s s' : S} (h : St w sb cb s) (i : Nat) (v : Value) (h1 : s'.sc = s.sc.set i v) (h2 : s'.cx = s.cx) : St (w.setCell ⟨sb, i, none⟩ v) sb cb s' :=
  ⟨h1 ▸ h.sc.set i v, h2 ▸ h.cx.set_other _ h.ne _⟩

/-- progress(ctx, m). -/
def Prog (sb cb : Nat) (s : S) (m : Int) (w w' : World) : Prop := St w' sb cb { s with idx := s.idx + m, pos := s.pos + m } ∧ Kept (fun k => k = sb ∨ k = cb) w w'
set_option maxHeartbeats 1000000 in
theorem progress (sb cb : Nat) (s : S) (m : Int) (w : World) (h : St w sb cb s) (hi : 0 ≤ s.idx) (hp : 0 ≤ s.pos) (hm : 0 ≤ m) (hi1 : s.idx + m < 9223372036854775807) (hp1 : s.pos + m < 9223372036854775807) :
    Calls Tryz.prog 114 #[.pointer (some ⟨sb, 0, none⟩), .pointer (some ⟨cb, 0, none⟩), .int .i64 m] w fun e w' => e = .returned (.tuple #[]) ∧ Prog sb cb s m w w' := by
  have c := progress155 cb s.idx m w (h.cx.cell 0 _ rfl) (h.cx.free 0) hi hm hi1
  have h1 : St (w.setCell ⟨cb, 0, none⟩ (.int .i64 (s.idx + m))) sb cb { s with idx := s.idx + m } := h.setCx 0 _ rfl rfl
  have k1 := h1.sc.cell 1 _ rfl
  have f1 := h1.sc.free 1
  have H1 := Lib.hid h1
  have K1 : Kept (fun k => k = sb ∨ k = cb) w (w.setCell ⟨cb, 0, none⟩ (.int .i64 (s.idx + m))) := (Kept.refl _ w).setCell _ (.inr rfl) _
  have HK := Lib.hid K1
  clear h h1 K1
  obtain ⟨w1, hw1⟩ : ∃ w1, w.setCell ⟨cb, 0, none⟩ (.int .i64 (s.idx + m)) = w1 := ⟨_, rfl⟩
  rw [hw1] at c k1 f1 H1 HK
  clear hw1
  go_enter Tryz.func114, Tryz.ntmps114
  go_wp2_with (go_at_call 155; refine c.mono ?_; rintro e w' ⟨rfl, rfl⟩)
  go_end0
  exact ⟨rfl, H1.out.setSc 1 _ rfl rfl, HK.out.setCell _ (.inl rfl) _⟩

/-- progressColumn(ctx, m): the column and the offset are let go. -/
def ProgCol (sb cb : Nat) (s : S) (m : Int) (w w' : World) : Prop :=
  ∃ col off, St w' sb cb { s with idx := s.idx + m, pos := s.pos + m, col := col, off := off } ∧ Kept (fun k => k = sb ∨ k = cb) w w'
set_option maxHeartbeats 1000000 in
theorem progCol (sb cb : Nat) (s : S) (m : Int) (w : World) (h : St w sb cb s) (hi : 0 ≤ s.idx) (hp : 0 ≤ s.pos) (hm : 0 ≤ m) (hi1 : s.idx + m < 9223372036854775807) (hp1 : s.pos + m < 9223372036854775807) :
    Calls Tryz.prog 107 #[.pointer (some ⟨sb, 0, none⟩), .pointer (some ⟨cb, 0, none⟩), .int .i64 m] w fun e w' => e = .returned (.tuple #[]) ∧ ProgCol sb cb s m w w' := by
  have k4 := h.sc.cell 4 _ rfl
  have f4 := h.sc.free 4
  have k5 := h.sc.cell 5 _ rfl
  have f5 := h.sc.free 5
  have H := Lib.hid h
  clear h
  go_enter Tryz.func107, Tryz.ntmps107
  go_wp2_with fail
  have h2 := (H.out.setSc (s' := { s with col := wrap64 (s.col + m) }) 4 (.int .i64 (wrap64 (s.col + m))) rfl rfl).setSc (s' := { s with col := wrap64 (s.col + m), off := wrap64 (s.off + m) }) 5 (.int .i64 (wrap64 (s.off + m))) rfl rfl
  have K2 : Kept (fun k => k = sb ∨ k = cb) w ((w.setCell ⟨sb, 4, none⟩ (.int .i64 (wrap64 (s.col + m)))).setCell ⟨sb, 5, none⟩ (.int .i64 (wrap64 (s.off + m)))) := ((Kept.refl _ w).setCell _ (.inl rfl) _).setCell _ (.inl rfl) _
  have c := progress sb cb { s with col := wrap64 (s.col + m), off := wrap64 (s.off + m) } m _ h2 hi hp hm hi1 hp1
  refine c.mono ?_
  rintro e w' ⟨rfl, hp2⟩
  have HP := Lib.hid hp2
  have HK := Lib.hid K2
  clear hp2 K2 c h2
  go_wp2
  go_end0
  exact ⟨rfl, _, _, HP.out.1, HK.out.trans HP.out.2⟩

set_option maxHeartbeats 1000000 in
theorem isNewLine (p : Value) (c : Int) (b : Bool) (hb : b = (c == 10 || c == 13)) (w : World) :
    Calls Tryz.prog 112 #[p, .int .i32 c] w fun e w' => e = .returned (.bool b) ∧ w' = w := by
  subst hb
  by_cases h10 : c = 10
  · subst h10
    go_enter Tryz.func112, Tryz.ntmps112
    go_wp2
    go_ret
    exact ⟨rfl, rfl⟩
  · have e10 : (c == 10) = false := by simpa using h10
    by_cases h13 : c = 13
    · subst h13
      go_enter Tryz.func112, Tryz.ntmps112
      go_wp2
      go_ret
      exact ⟨rfl, rfl⟩
    · have e13 : (c == 13) = false := by simpa using h13
      rw [e10, e13]
      go_enter Tryz.func112, Tryz.ntmps112
      go_wp2
      go_ret
      exact ⟨rfl, rfl⟩

theorem Kept.one {cb : Nat} {a b : World} (h : Kept (fun k => k = cb) a b) (i : Nat) (v : Value) : Kept (fun k => k = cb) a (b.setCell ⟨cb, i, none⟩ v) := h.setCell _ rfl _
/-- A slice that is nil, or begins at the head of its block. -/
def Sl (v : Value) : Prop := v = .slice none 0 0 ∨ ∃ g n cap, v = .slice (some ⟨g, 0, none⟩) n cap
theorem Sl.owns {w : World} {base : Nat} {e : TypeId} {size n : Nat} {v : Value} {xs : List Value} (h : w.ownsRow base e size v n xs) : Sl v := by
  rcases h.2 with ⟨hv, _⟩ | ⟨g, cap, cur, hv, _⟩
  · exact .inl hv
  · exact .inr ⟨g, n, cap, hv⟩

def Cleared (sb cb : Nat) (s : S) (w w' : World) : Prop := ∃ v nso, St w' sb cb { s with obuf := v, nsp := 0, nso := nso } ∧ Kept (fun k => k = cb) w w'
set_option maxHeartbeats 1000000 in
theorem reset153 (sb cb : Nat) (s : S) (w : World) (h : St w sb cb s) (hb : s.buf = .slice none 0 0) (ho : Sl s.obuf) :
    Calls Tryz.prog 153 #[.pointer (some ⟨cb, 0, none⟩)] w fun e w' => e = .returned (.tuple #[]) ∧ Cleared sb cb s w w' := by
  have c5 := h.cx.cell 5 _ rfl
  have c6 := h.cx.cell 6 _ rfl
  have c2 := h.cx.cell 2 _ rfl
  have c3 := h.cx.cell 3 _ rfl
  have f5 := h.cx.free 5
  have f6 := h.cx.free 6
  have f2 := h.cx.free 2
  have f3 := h.cx.free 3
  rw [hb] at c5
  have H := Lib.hid h
  have HB := Lib.hid hb
  clear h hb
  rcases ho with ho | ⟨g, n, cap, ho⟩
  · rw [ho] at c6
    have HO := Lib.hid ho
    clear ho
    go_enter Tryz.func153, Tryz.ntmps153
    go_wp2
    go_end0
    exact ⟨rfl, .slice none 0 0, 0, (((H.out.setCx (s' := { s with buf := .slice none 0 0 }) 5 _ rfl rfl).setCx (s' := { s with buf := .slice none 0 0, obuf := .slice none 0 0 }) 6 _ rfl rfl).setCx (s' := { s with buf := .slice none 0 0, obuf := .slice none 0 0, nsp := 0 }) 2 _ rfl rfl).setCx 3 _ rfl (by rw [← HB.out]; rfl),
      ((((Kept.refl _ w).one _ _).one _ _).one _ _).one _ _⟩
  · rw [ho] at c6
    have HO := Lib.hid ho
    clear ho
    go_enter Tryz.func153, Tryz.ntmps153
    go_wp2
    go_end0
    exact ⟨rfl, .slice (some ⟨g, 0, none⟩) 0 cap, 0, (((H.out.setCx (s' := { s with buf := .slice none 0 0 }) 5 _ rfl rfl).setCx (s' := { s with buf := .slice none 0 0, obuf := .slice (some ⟨g, 0, none⟩) 0 cap }) 6 _ rfl rfl).setCx (s' := { s with buf := .slice none 0 0, obuf := .slice (some ⟨g, 0, none⟩) 0 cap, nsp := 0 }) 2 _ rfl rfl).setCx 3 _ rfl (by rw [← HB.out]; rfl),
      ((((Kept.refl _ w).one _ _).one _ _).one _ _).one _ _⟩

set_option maxHeartbeats 1000000 in
theorem clear108 (sb cb : Nat) (s : S) (w : World) (h : St w sb cb s) (hb : s.buf = .slice none 0 0) (ho : Sl s.obuf) :
    Calls Tryz.prog 108 #[.pointer (some ⟨cb, 0, none⟩)] w fun e w' => e = .returned (.tuple #[]) ∧ Cleared sb cb s w w' := by
  have c := reset153 sb cb s w h hb ho
  clear h hb ho
  go_enter Tryz.func108, Tryz.ntmps108
  go_wp2_with fail
  refine c.mono ?_
  rintro e w' ⟨rfl, v, m, hs, hk⟩
  have c8 := hs.cx.cell 8 _ rfl
  have f8 := hs.cx.free 8
  have H := Lib.hid hs
  have HK := Lib.hid hk
  clear hs hk c
  go_wp2
  go_end0
  exact ⟨rfl, v, m, H.out.setCx 8 _ rfl rfl, HK.out.one _ _⟩

def tokCells (ty ch sg : Int) (val org : ByteArray) (pos : Value) : List Value :=
  [.int .i64 ty, .int .i64 ch, .int .i64 sg, .string val, .string org, .string ⟨#[]⟩, pos, .pointer none, .pointer none]

set_option maxHeartbeats 1000000 in
theorem docEndTok (org : ByteArray) (p : Addr) (w : World) :
    Calls Tryz.prog 62 #[.string org, .pointer (some p)] w fun e w' => e = .returned (.pointer (some ⟨w.heap.size, 0, none⟩)) ∧ w' = w.alloc (.cells (tokCells 2 2 0 ⟨#[46, 46, 46]⟩ org (.pointer (some p))).toArray 108) := by
  go_enter Tryz.func62, Tryz.ntmps62
  go_wp2
  go_ret
  exact ⟨rfl, rfl⟩
set_option maxHeartbeats 1000000 in
theorem docStartTok (org : ByteArray) (p : Addr) (w : World) :
    Calls Tryz.prog 61 #[.string org, .pointer (some p)] w fun e w' => e = .returned (.pointer (some ⟨w.heap.size, 0, none⟩)) ∧ w' = w.alloc (.cells (tokCells 1 2 0 ⟨#[45, 45, 45]⟩ org (.pointer (some p))).toArray 108) := by
  go_enter Tryz.func61, Tryz.ntmps61
  go_wp2
  go_ret
  exact ⟨rfl, rfl⟩
set_option maxHeartbeats 1000000 in
theorem commentTok (val org : ByteArray) (p : Addr) (w : World) :
    Calls Tryz.prog 72 #[.string val, .string org, .pointer (some p)] w fun e w' => e = .returned (.pointer (some ⟨w.heap.size, 0, none⟩)) ∧ w' = w.alloc (.cells (tokCells 12 0 3 val org (.pointer (some p))).toArray 108) := by
  go_enter Tryz.func72, Tryz.ntmps72
  go_wp2
  go_ret
  exact ⟨rfl, rfl⟩

theorem own_toks {w : World} {B : Nat} {rs : List Int} {cap : Nat} (h : Ready w B rs cap) : w.ownsRow B 56 1 (.slice (some ⟨B + 2, 0, none⟩) 0 0) 0 [] :=
  ⟨rfl, .inr ⟨B + 2, 0, #[], rfl, by omega, h.tk, by omega, by unfold maxLen; omega, rfl, rfl⟩⟩

theorem St.alloc {w : World} {sb cb : Nat} {s : S} (h : St w sb cb s) (o : Obj) : St (w.alloc o) sb cb s := ⟨h.sc.alloc o, h.cx.alloc o⟩
theorem St.drew {w : World} {sb cb : Nat} {s : S} (h : St w sb cb s) : St w.drew sb cb s := ⟨h.sc, h.cx⟩
end Go.Proofs.YtpjfmfaijcbopaaGreatDoor
