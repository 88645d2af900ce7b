/- Lemmas and contracts of functions of the program, for the statements of this seat: Base. -/
import Derived.Test.YtpjfmfaijcbopaaGreatDoorProg
import Derived.WalkKit
import Derived.ProofKit
import Derived.Handy
import Derived.WalkLawsBesides
import Derived.WalkSpells
import Derived.Laws.IdiomStrings
import Derived.Lib.Hide
import Derived.IntWalk
namespace Go.Proofs.YtpjfmfaijcbopaaGreatDoor
open Go.RowKit

/-- The runes of a string's bytes from a place on, by the model's own decoder. -/
def decs (s : ByteArray) : Nat → Nat → List Int
  | 0, _ => []
  | f + 1, i => if i < s.size then ((Utf8.decode s i).1 : Int) :: decs s f (i + (Utf8.decode s i).2) else []
def runes (s : ByteArray) : List Int := decs s s.size 0

def i32s (l : List Int) : List Value := l.map (Value.int .i32)

theorem runesFrom_decs (s : ByteArray) : ∀ (f i : Nat) (acc : Array Value), Conv.runesFrom s f i acc = acc ++ (i32s (decs s f i)).toArray
  | 0, _, acc => by simp [Conv.runesFrom, decs, i32s]
  | f + 1, i, acc => by
    unfold Conv.runesFrom decs
    split
    · show Conv.runesFrom s f (i + (Utf8.decode s i).2) (acc.push (Value.int IntKind.i32 (Int.ofNat (Utf8.decode s i).1))) = _
      rw [runesFrom_decs s f]
      simp [i32s]
    · simp [i32s]
theorem runesFrom_runes (s : ByteArray) : Conv.runesFrom s s.size 0 #[] = (i32s (runes s)).toArray := by
  rw [runesFrom_decs]; simp [runes]
theorem decs_length (s : ByteArray) : ∀ f i, (decs s f i).length ≤ f
  | 0, _ => by simp [decs]
  | f + 1, i => by
    unfold decs
    split
    · simp; exact decs_length s f _
    · simp
theorem runes_length (s : ByteArray) : (runes s).length ≤ s.size := decs_length s _ _

/-- A world in which a block is a row of cells. -/
def Blk (w : World) (b : Nat) (cs : List Value) (t : TypeId) : Prop := w.heap[b]? = some (.cells cs.toArray t (0, 0))
theorem Blk.cell {w : World} {b : Nat} {cs : List Value} {t : TypeId} (h : Blk w b cs t) (i : Nat) (v : Value) (hv : cs[i]? = some v) : w.cell? ⟨b, i, none⟩ = some v := by
  unfold Blk at h
  simp [World.cell?, h, hv]
theorem Blk.free {w : World} {b : Nat} {cs : List Value} {t : TypeId} (h : Blk w b cs t) (i : Nat) : w.frozen? ⟨b, i, none⟩ = false := by
  unfold Blk at h
  simp [World.frozen?, h]

/-- The capacity that '[]rune(s)' draws. -/
noncomputable def capOf (w : World) (n : Nat) : Nat := grownCap w n 0 21

/-- A scanner at its beginning (its block, the runes' block). -/
def scAt (rb n cap : Nat) : List Value :=
  [.slice (some ⟨rb, 0, none⟩) n cap, .int .i64 0, .int .i64 n, .int .i64 1, .int .i64 1, .int .i64 1, .int .i64 0, .int .i64 0, .int .i64 0, .int .i64 0,
   .bool true, .bool false, .bool false, .bool false, .int .i64 0, .int .i64 0, .int .i64 0, .pointer none]
/-- A context at its beginning. -/
def cxAt (rb tb n cap : Nat) : List Value :=
  [.int .i64 0, .int .i64 n, .int .i64 0, .int .i64 0, .slice (some ⟨rb, 0, none⟩) n cap, .slice none 0 0, .slice none 0 0, .slice (some ⟨tb, 0, none⟩) 0 0, .pointer none]

/-- What zzAt leaves: four blocks from B on. -/
structure Ready (w' : World) (B : Nat) (rs : List Int) (cap : Nat) : Prop where
  sc : Blk w' B (scAt (B + 1) rs.length cap) 100
  rn : Blk w' (B + 1) (i32s rs ++ List.replicate (cap - rs.length) (.int .i32 0)) 21
  tk : Blk w' (B + 2) [] 56
  cx : Blk w' (B + 3) (cxAt (B + 1) (B + 2) rs.length cap) 103
  size : w'.heap.size = B + 4

theorem Ready.rune {w' : World} {B : Nat} {rs : List Int} {cap : Nat} (h : Ready w' B rs cap) (i : Nat) (hi : i < rs.length) : w'.cell? ⟨B + 1, i, none⟩ = some (.int .i32 (rs.getD i 0)) := by
  refine h.rn.cell i _ ?_
  rw [List.getElem?_append_left (by simpa [i32s] using hi)]
  simp [i32s, hi]

theorem four (w : World) (A B C D : Obj) : ((((w.alloc A).alloc B).alloc C).alloc D).drew.heap[w.heap.size]? = some A ∧ ((((w.alloc A).alloc B).alloc C).alloc D).drew.heap[w.heap.size + 1]? = some B ∧
    ((((w.alloc A).alloc B).alloc C).alloc D).drew.heap[w.heap.size + 2]? = some C ∧ ((((w.alloc A).alloc B).alloc C).alloc D).drew.heap[w.heap.size + 3]? = some D ∧
    ((((w.alloc A).alloc B).alloc C).alloc D).drew.heap.size = w.heap.size + 4 ∧ Below w.heap.size w ((((w.alloc A).alloc B).alloc C).alloc D).drew := by
  refine ⟨?_, ?_, ?_, ?_, ?_, ?_⟩
  · show ((((w.heap.push A).push B).push C).push D)[w.heap.size]? = _
    simp only [Array.getElem?_push, Array.size_push]
    rw [if_neg (by omega), if_neg (by omega), if_neg (by omega), if_pos trivial]
  · show ((((w.heap.push A).push B).push C).push D)[w.heap.size + 1]? = _
    simp only [Array.getElem?_push, Array.size_push]
    rw [if_neg (by omega), if_neg (by omega), if_pos trivial]
  · show ((((w.heap.push A).push B).push C).push D)[w.heap.size + 2]? = _
    simp only [Array.getElem?_push, Array.size_push]
    rw [if_neg (by omega), if_pos trivial]
  · show ((((w.heap.push A).push B).push C).push D)[w.heap.size + 3]? = _
    simp only [Array.getElem?_push, Array.size_push]
    rw [if_pos trivial]
  · show ((((w.heap.push A).push B).push C).push D).size = _
    simp
  · exact (((((Below.refl _ _).alloc (Nat.le_refl _) _).alloc (by simp) _).alloc (by simp; omega) _).alloc (by simp; omega) _).drew

set_option maxHeartbeats 1000000 in
theorem zzAt (s : ByteArray) (w : World) (hs : s.size ≤ 70368744177664) :
    Calls Tryz.prog 54 #[.string s] w fun e w' => ∃ cap, e = .returned (.tuple #[.pointer (some ⟨w.heap.size, 0, none⟩), .pointer (some ⟨w.heap.size + 3, 0, none⟩)]) ∧
      Below w.heap.size w w' ∧ Ready w' w.heap.size (runes s) cap ∧ (runes s).length ≤ cap := by
  have hlen := runes_length s
  have hr : (Conv.runesFrom s s.size 0 #[]).size ≤ 70368744177664 := by rw [runesFrom_runes]; simp [i32s]; omega
  have hconv := fun (w : World) => run_runes_of_string (P := Tryz.prog) w 9 27 21 s Tryz.underlying9 Tryz.underlying27 Tryz.underlying21 hr
  rw [runesFrom_runes] at hconv
  have hsz : (i32s (runes s)).toArray.size = (runes s).length := by simp [i32s]
  rw [hsz] at hconv
  clear hr hsz
  obtain ⟨rs, hrs⟩ : ∃ rs, runes s = rs := ⟨_, rfl⟩
  rw [hrs] at hconv hlen ⊢
  clear hrs
  obtain ⟨R, hR⟩ : ∃ R, (i32s rs).toArray = R := ⟨_, rfl⟩
  obtain ⟨n, hn⟩ : ∃ n, rs.length = n := ⟨_, rfl⟩
  rw [hR, hn] at hconv
  have HR := Lib.hid hR
  have HN := Lib.hid hn
  clear hR
  rw [hn] at hlen ⊢
  clear hn
  go_enter Tryz.func54, Tryz.ntmps54
  go_wp2
  refine bodyPost_ret (v := .tuple #[.pointer (some ⟨w.heap.size, 0, none⟩), .pointer (some ⟨w.heap.size + 3, 0, none⟩)]) (by simp [results, Tryz.results54, go_sem]) rfl ?_
  obtain ⟨cap, hcap⟩ : ∃ cap, grownCap (w.alloc (.cells #[.slice none 0 0, .int .i64 0, .int .i64 0, .int .i64 0, .int .i64 0, .int .i64 0, .int .i64 0, .int .i64 0, .int .i64 0, .int .i64 0, .bool false, .bool false, .bool false, .bool false, .int .i64 0, .int .i64 0, .int .i64 0, .pointer none] 100)) n 0 21 = cap := ⟨_, rfl⟩
  have hge : n ≤ cap := hcap ▸ grownCap_ge _ _ _ _
  rw [hcap]
  obtain ⟨f0, f1, f2, f3, f4, f5⟩ := four w (.cells #[.slice (some ⟨w.heap.size + 1, 0, none⟩) n cap, .int .i64 0, .int .i64 n, .int .i64 1, .int .i64 1, .int .i64 1, .int .i64 0, .int .i64 0, .int .i64 0, .int .i64 0, .bool true, .bool false, .bool false, .bool false, .int .i64 0, .int .i64 0, .int .i64 0, .pointer none] 100)
    (.cells (R ++ Array.replicate (cap - n) (.int .i32 0)) 21) (.cells #[] 56)
    (.cells #[.int .i64 0, .int .i64 n, .int .i64 0, .int .i64 0, .slice (some ⟨w.heap.size + 1, 0, none⟩) n cap, .slice none 0 0, .slice none 0 0, .slice (some ⟨w.heap.size + 1 + 1, 0, none⟩) 0 0, .pointer none] 103)
  have hn := HN.out
  subst hn
  refine ⟨cap, rfl, f5, ⟨f0, ?_, f2, f3, f4⟩, hge⟩
  unfold Blk
  rw [f1, ← HR.out]
  simp

/-- How many of a list's first members are r. -/
def runOf (r : Int) : List Int → Nat
  | [] => 0
  | x :: xs => if x = r then runOf r xs + 1 else 0

theorem runOf_le (r : Int) : ∀ l : List Int, runOf r l ≤ l.length
  | [] => Nat.le_refl _
  | x :: xs => by
    unfold runOf
    have := runOf_le r xs
    split <;> simp <;> omega

theorem runOf_at (r : Int) : ∀ (l : List Int) (k : Nat), (∀ j, j < k → l.getD j 0 = r) → k ≤ l.length → (k < l.length → l.getD k 0 ≠ r) → runOf r l = k
  | [], k, _, hk, _ => by simp at hk; subst hk; rfl
  | x :: xs, 0, _, _, hn => by
    have := hn (by simp)
    simp at this
    unfold runOf
    rw [if_neg this]
  | x :: xs, k + 1, ha, hk, hn => by
    have h0 := ha 0 (by omega)
    simp at h0
    unfold runOf
    rw [if_pos h0]
    rw [runOf_at r xs k (fun j hj => by simpa using ha (j + 1) (by omega)) (by simpa using hk) (fun h => by simpa using hn (by simpa using h))]

set_option maxHeartbeats 1000000 in
theorem repeatNum (cb rb cap : Nat) (rs : List Int) (r : Int) (w : World)
    (c0 : w.cell? ⟨cb, 0, none⟩ = some (.int .i64 0)) (c1 : w.cell? ⟨cb, 1, none⟩ = some (.int .i64 rs.length))
    (c4 : w.cell? ⟨cb, 4, none⟩ = some (.slice (some ⟨rb, 0, none⟩) rs.length cap))
    (hr : ∀ i, i < rs.length → w.cell? ⟨rb, i, none⟩ = some (.int .i32 (rs.getD i 0))) (hlen : rs.length ≤ 70368744177664) :
    Calls Tryz.prog 103 #[.pointer (some ⟨cb, 0, none⟩), .int .i32 r] w fun e w' => e = .returned (.int .i64 (runOf r rs)) ∧ w = w' := by
  have HR := Lib.hid hr
  clear hr
  go_enter Tryz.func103, Tryz.ntmps103
  go_wp2
  go_loop [5, 6] (fun c i => ∃ k : Nat, k ≤ rs.length ∧ Hid (∀ j, j < k → rs.getD j 0 = r) ∧ i = .int .i64 k ∧ c = .int .i64 k) (fun _ i => rs.length - (intOf i).toNat)
  case atStart => exact ⟨0, Nat.zero_le _, Lib.hid (fun j hj => by omega), rfl, rfl⟩
  case round =>
    obtain ⟨k, hk, HA, rfl, rfl⟩ := hrel
    by_cases hlt : k < rs.length
    · have hc := HR.out k hlt
      by_cases hx : rs.getD k 0 = r
      · have hb : ((rs.getD k 0) == r) = true := by simpa using hx
        rw [hx] at hc
        clear hb
        go_wp2
        go_round
        case rel => exact ⟨k + 1, by omega, Lib.hid (fun j hj => by
          by_cases e : j = k
          · subst e; exact hx
          · exact HA.out j (by omega)), by go_num, by go_num⟩
        case measure => simp [intOf]; omega
      · obtain ⟨x, hxe⟩ : ∃ x, rs.getD k 0 = x := ⟨_, rfl⟩
        rw [hxe] at hc hx
        have hb : (x == r) = false := by simpa using hx
        have hrun := runOf_at r rs k HA.out hk (fun _ => by rw [hxe]; exact hx)
        have HRun := Lib.hid hrun
        clear hrun hxe hx
        go_wp2
        go_ret
        exact ⟨congrArg (fun n : Nat => Ending.returned (.int .i64 (n : Int))) HRun.out.symm, rfl⟩
    · have hrun := runOf_at r rs k HA.out hk (fun h => absurd h hlt)
      have HRun := Lib.hid hrun
      clear hrun
      go_wp2
      go_ret
      exact ⟨congrArg (fun n : Nat => Ending.returned (.int .i64 (n : Int))) HRun.out.symm, rfl⟩
end Go.Proofs.YtpjfmfaijcbopaaGreatDoor
