/- impl.ScanQuoted over a text that begins with a quoted scalar of one line. -/
import Derived.Test.YtpjfmfaijcbopaaGreatDoorQd
import Derived.Test.YtpjfmfaijcbopaaGreatDoorQsm
namespace Go.Proofs.YtpjfmfaijcbopaaGreatDoor
open Go.RowKit Go.Proofs

/-- What ZzQuoted answers. -/
def ZqEnd (ty : Int) (n : Nat) (T : Option (List Int)) (w : World) (e : Ending) (w' : World) : Prop :=
  Below w.heap.size w w' ∧ (∀ vals, T = some vals → ∃ tb pb org ps, e = .returned (.tuple #[.pointer (some ⟨tb, 0, none⟩), .int .i64 ((n + 2 : Nat) : Int), .nilIface]) ∧ Blk w' tb (tokCells ty 0 6 (runesBytes vals) org (.pointer (some ⟨pb, 0, none⟩))) 108 ∧ Blk w' pb (posCells ps) 116) ∧
  (T = none → ∃ t a x, e = .returned (.tuple #[.pointer none, .int .i64 x, .iface t (.pointer (some a))]))

set_option maxRecDepth 100000 in
set_option maxHeartbeats 4000000 in
theorem zzQuotedD (s : ByteArray) (n : Nat) (T : Option (List Int)) (w : World) (hs : s.size ≤ 70368744177664)
    (hc : ∀ cap W, Ready W w.heap.size (runes s) cap → (runes s).length ≤ cap → Calls Tryz.prog 99 #[.pointer (some ⟨w.heap.size, 0, none⟩), .pointer (some ⟨w.heap.size + 3, 0, none⟩)] W (QEnd w.heap.size 19 n T W)) :
    Calls Tryz.prog 51 #[.string s, .bool false] w (ZqEnd 19 n T w) := by
  have hlen := runes_length s
  have hr : (Conv.runesFrom s s.size 0 #[]).size ≤ 70368744177664 := by rw [runesFrom_runes]; simp [i32s]; omega
  have hconv := fun (w : World) => run_runes_of_string (P := Tryz.prog) w 9 27 21 s Tryz.underlying9 Tryz.underlying27 Tryz.underlying21 hr
  rw [runesFrom_runes] at hconv
  have hsz : (i32s (runes s)).toArray.size = (runes s).length := by simp [i32s]
  rw [hsz] at hconv
  clear hr hsz
  have HC := Lib.hid hc
  clear hc
  obtain ⟨rs, hrs⟩ : ∃ rs, runes s = rs := ⟨_, rfl⟩
  rw [hrs] at hconv hlen HC
  clear hrs
  obtain ⟨R, hR⟩ : ∃ R, (i32s rs).toArray = R := ⟨_, rfl⟩
  obtain ⟨m, hn⟩ : ∃ n, rs.length = n := ⟨_, rfl⟩
  rw [hR, hn] at hconv
  have HR := Lib.hid hR
  have HN := Lib.hid hn
  clear hR
  rw [hn] at hlen
  clear hn
  go_enter Tryz.func51, Tryz.ntmps51
  go_wp2_with (first | (go_at_call 98; go_in) | (go_at_call 109; go_in) | (go_at_call 101; go_in) | (go_at_call 150; go_in) | (go_at_call 151; go_in) | (go_at_call 153; go_in))
  obtain ⟨cap, hcap⟩ : ∃ cap, grownCap (w.alloc (.cells #[.slice none 0 0, .int .i64 0, .int .i64 0, .int .i64 0, .int .i64 0, .int .i64 0, .int .i64 0, .int .i64 0, .int .i64 0, .int .i64 0, .bool false, .bool false, .bool false, .bool false, .int .i64 0, .int .i64 0, .int .i64 0, .pointer none] 100)) m 0 21 = cap := ⟨_, rfl⟩
  have hge : m ≤ cap := hcap ▸ grownCap_ge _ _ _ _
  rw [hcap]
  obtain ⟨f0, f1, f2, f3, f4, f5⟩ := four w (.cells #[.slice (some ⟨w.heap.size + 1, 0, none⟩) m cap, .int .i64 0, .int .i64 m, .int .i64 1, .int .i64 1, .int .i64 1, .int .i64 0, .int .i64 0, .int .i64 0, .int .i64 0, .bool true, .bool false, .bool false, .bool false, .int .i64 0, .int .i64 0, .int .i64 0, .pointer none] 100)
    (.cells (R ++ Array.replicate (cap - m) (.int .i32 0)) 21) (.cells #[] 56)
    (.cells #[.int .i64 0, .int .i64 m, .int .i64 0, .int .i64 0, .slice (some ⟨w.heap.size + 1, 0, none⟩) m cap, .slice none 0 0, .slice none 0 0, .slice (some ⟨w.heap.size + 1 + 1, 0, none⟩) 0 0, .pointer none] 103)
  have hn := HN.out
  subst hn
  have hb1 : (i32s rs ++ List.replicate (cap - rs.length) (Value.int .i32 0)).toArray = R ++ Array.replicate (cap - rs.length) (Value.int .i32 0) := by rw [← HR.out]; simp
  refine (HC.out cap _ ⟨f0, by unfold Blk; rw [hb1]; exact f1, f2, f3, f4⟩ hge).mono ?_
  rintro e w2 ⟨hb, h1, h2⟩
  have HB : Hid (Below w.heap.size w w2) := Lib.hid (f5.trans hb)
  have H1 := Lib.hid h1
  have H2 := Lib.hid h2
  clear f0 f1 f2 f3 f4 f5 hb1 hb h1 h2 hcap hge hconv HR HC HN
  cases T with
  | some vals =>
    obtain ⟨tb, pb, org, ps, rfl, ht, hp, hx⟩ := H1.out vals rfl
    have HT := Lib.hid ht
    have HP := Lib.hid hp
    clear ht hp H1 H2
    go_wp2_with fail
    go_region_held3 (fun w' => w'.cell? ⟨w.heap.size, 1, none⟩ = some (.int .i64 ((n + 2 : Nat) : Int))) (go_keep) (fail)
    go_wp2
    refine bodyPost_ret (v := .tuple #[.pointer (some ⟨tb, 0, none⟩), .int .i64 ((n + 2 : Nat) : Int), .nilIface]) (by simp [results, Tryz.results51, go_sem]) rfl ?_
    exact ⟨HB.out.drew, fun vals' hv => (by cases hv; exact ⟨tb, pb, org, ps, rfl, HT.out.drew, HP.out.drew⟩), fun h => (by cases h)⟩
  | none =>
    obtain ⟨t, a, x, rfl, hx⟩ := H2.out rfl
    clear H1 H2
    go_wp2_with fail
    go_region_held3 (fun w' => w'.cell? ⟨w.heap.size, 1, none⟩ = some (.int .i64 x)) (go_keep) (fail)
    go_wp2
    refine bodyPost_ret (v := .tuple #[.pointer none, .int .i64 x, .iface t (.pointer (some a))]) (by simp [results, Tryz.results51, go_sem]) rfl ?_
    exact ⟨HB.out.drew, fun vals' hv => (by cases hv), fun _ => ⟨t, a, x, rfl⟩⟩

set_option maxRecDepth 100000 in
set_option maxHeartbeats 4000000 in
theorem zzQuotedS (s : ByteArray) (n : Nat) (T : Option (List Int)) (w : World) (hs : s.size ≤ 70368744177664)
    (hc : ∀ cap W, Ready W w.heap.size (runes s) cap → (runes s).length ≤ cap → Calls Tryz.prog 100 #[.pointer (some ⟨w.heap.size, 0, none⟩), .pointer (some ⟨w.heap.size + 3, 0, none⟩)] W (QEnd w.heap.size 18 n T W)) :
    Calls Tryz.prog 51 #[.string s, .bool true] w (ZqEnd 18 n T w) := by
  have hlen := runes_length s
  have hr : (Conv.runesFrom s s.size 0 #[]).size ≤ 70368744177664 := by rw [runesFrom_runes]; simp [i32s]; omega
  have hconv := fun (w : World) => run_runes_of_string (P := Tryz.prog) w 9 27 21 s Tryz.underlying9 Tryz.underlying27 Tryz.underlying21 hr
  rw [runesFrom_runes] at hconv
  have hsz : (i32s (runes s)).toArray.size = (runes s).length := by simp [i32s]
  rw [hsz] at hconv
  clear hr hsz
  have HC := Lib.hid hc
  clear hc
  obtain ⟨rs, hrs⟩ : ∃ rs, runes s = rs := ⟨_, rfl⟩
  rw [hrs] at hconv hlen HC
  clear hrs
  obtain ⟨R, hR⟩ : ∃ R, (i32s rs).toArray = R := ⟨_, rfl⟩
  obtain ⟨m, hn⟩ : ∃ n, rs.length = n := ⟨_, rfl⟩
  rw [hR, hn] at hconv
  have HR := Lib.hid hR
  have HN := Lib.hid hn
  clear hR
  rw [hn] at hlen
  clear hn
  go_enter Tryz.func51, Tryz.ntmps51
  go_wp2_with (first | (go_at_call 98; go_in) | (go_at_call 109; go_in) | (go_at_call 101; go_in) | (go_at_call 150; go_in) | (go_at_call 151; go_in) | (go_at_call 153; go_in))
  obtain ⟨cap, hcap⟩ : ∃ cap, grownCap (w.alloc (.cells #[.slice none 0 0, .int .i64 0, .int .i64 0, .int .i64 0, .int .i64 0, .int .i64 0, .int .i64 0, .int .i64 0, .int .i64 0, .int .i64 0, .bool false, .bool false, .bool false, .bool false, .int .i64 0, .int .i64 0, .int .i64 0, .pointer none] 100)) m 0 21 = cap := ⟨_, rfl⟩
  have hge : m ≤ cap := hcap ▸ grownCap_ge _ _ _ _
  rw [hcap]
  obtain ⟨f0, f1, f2, f3, f4, f5⟩ := four w (.cells #[.slice (some ⟨w.heap.size + 1, 0, none⟩) m cap, .int .i64 0, .int .i64 m, .int .i64 1, .int .i64 1, .int .i64 1, .int .i64 0, .int .i64 0, .int .i64 0, .int .i64 0, .bool true, .bool false, .bool false, .bool false, .int .i64 0, .int .i64 0, .int .i64 0, .pointer none] 100)
    (.cells (R ++ Array.replicate (cap - m) (.int .i32 0)) 21) (.cells #[] 56)
    (.cells #[.int .i64 0, .int .i64 m, .int .i64 0, .int .i64 0, .slice (some ⟨w.heap.size + 1, 0, none⟩) m cap, .slice none 0 0, .slice none 0 0, .slice (some ⟨w.heap.size + 1 + 1, 0, none⟩) 0 0, .pointer none] 103)
  have hn := HN.out
  subst hn
  have hb1 : (i32s rs ++ List.replicate (cap - rs.length) (Value.int .i32 0)).toArray = R ++ Array.replicate (cap - rs.length) (Value.int .i32 0) := by rw [← HR.out]; simp
  refine (HC.out cap _ ⟨f0, by unfold Blk; rw [hb1]; exact f1, f2, f3, f4⟩ hge).mono ?_
  rintro e w2 ⟨hb, h1, h2⟩
  have HB : Hid (Below w.heap.size w w2) := Lib.hid (f5.trans hb)
  have H1 := Lib.hid h1
  have H2 := Lib.hid h2
  clear f0 f1 f2 f3 f4 f5 hb1 hb h1 h2 hcap hge hconv HR HC HN
  cases T with
  | some vals =>
    obtain ⟨tb, pb, org, ps, rfl, ht, hp, hx⟩ := H1.out vals rfl
    have HT := Lib.hid ht
    have HP := Lib.hid hp
    clear ht hp H1 H2
    go_wp2_with fail
    go_region_held3 (fun w' => w'.cell? ⟨w.heap.size, 1, none⟩ = some (.int .i64 ((n + 2 : Nat) : Int))) (go_keep) (fail)
    go_wp2
    refine bodyPost_ret (v := .tuple #[.pointer (some ⟨tb, 0, none⟩), .int .i64 ((n + 2 : Nat) : Int), .nilIface]) (by simp [results, Tryz.results51, go_sem]) rfl ?_
    exact ⟨HB.out.drew, fun vals' hv => (by cases hv; exact ⟨tb, pb, org, ps, rfl, HT.out.drew, HP.out.drew⟩), fun h => (by cases h)⟩
  | none =>
    obtain ⟨t, a, x, rfl, hx⟩ := H2.out rfl
    clear H1 H2
    go_wp2_with fail
    go_region_held3 (fun w' => w'.cell? ⟨w.heap.size, 1, none⟩ = some (.int .i64 x)) (go_keep) (fail)
    go_wp2
    refine bodyPost_ret (v := .tuple #[.pointer none, .int .i64 x, .iface t (.pointer (some a))]) (by simp [results, Tryz.results51, go_sem]) rfl ?_
    exact ⟨HB.out.drew, fun vals' hv => (by cases hv), fun _ => ⟨t, a, x, rfl⟩⟩
end Go.Proofs.YtpjfmfaijcbopaaGreatDoor
