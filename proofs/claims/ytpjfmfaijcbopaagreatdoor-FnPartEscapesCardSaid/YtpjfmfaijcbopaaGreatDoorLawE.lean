/- The law FnPartEscapes. -/
import Derived.Test.YtpjfmfaijcbopaaGreatDoorLawQ
namespace Go.Proofs.YtpjfmfaijcbopaaGreatDoor
open Go.RowKit Go.Proofs

set_option maxRecDepth 100000 in
set_option maxHeartbeats 4000000 in
theorem lawFnPartEscapes (s e r : ByteArray) (w : World) (hs : s.size ≤ maxLen) (he : e.size ≤ maxLen) (hr : r.size ≤ maxLen) (hT : Tabs w) :
    Calls Tryz.prog 8 #[.string s, .string e, .string r] w fun e w' => e = .returned (.bool true) ∧ Below w.heap.size w w' := by
  unfold maxLen at hs he hr
  by_cases b1 : s.size ≤ 2147483647
  · have z1 : ¬ ((2147483647 : Int) < (s.size : Int)) := by omega
    by_cases b2 : e.size ≤ 2147483647
    · have z2 : ¬ ((2147483647 : Int) < (e.size : Int)) := by omega
      by_cases b3 : r.size ≤ 2147483647
      · have z3 : ¬ ((2147483647 : Int) < (r.size : Int)) := by omega
        have hz : (⟨#[92]⟩ : ByteArray).size = 1 := rfl
        have hz0 : (⟨#[]⟩ : ByteArray).size = 0 := rfl
        have cQ := Lib.hid (lawFnQuotedScanned (s ++ ⟨#[92]⟩ ++ e ++ r) ⟨#[]⟩ false w (by rw [ByteArray.size_append, ByteArray.size_append, ByteArray.size_append, hz]; unfold maxLen; omega) (by rw [hz0]; unfold maxLen; omega) hT)
        clear hT hs he hr hz0
        go_enter Tryz.func8, Tryz.ntmps8
        go_wp2_with fail
        refine cQ.out.mono ?_
        rintro e' w1 ⟨rfl, hb1⟩
        have HB := Lib.hid hb1
        clear hb1 cQ
        go_wp2_with fail
        go_ret
        exact ⟨rfl, HB.out⟩
      · have z3 : (2147483647 : Int) < (r.size : Int) := by omega
        clear hT hs he hr b1 b2 b3
        go_enter Tryz.func8, Tryz.ntmps8
        go_wp2_with fail
        go_ret
        exact ⟨rfl, Below.refl _ _⟩
    · have z2 : (2147483647 : Int) < (e.size : Int) := by omega
      clear hT hs he hr b1 b2
      go_enter Tryz.func8, Tryz.ntmps8
      go_wp2_with fail
      go_ret
      exact ⟨rfl, Below.refl _ _⟩
  · have z1 : (2147483647 : Int) < (s.size : Int) := by omega
    clear hT hs he hr b1
    go_enter Tryz.func8, Tryz.ntmps8
    go_wp2_with fail
    go_ret
    exact ⟨rfl, Below.refl _ _⟩
end Go.Proofs.YtpjfmfaijcbopaaGreatDoor
