/-
  THE WALKS of seat b6603916aD, fifth text: the law FnDecimalSpec.
-/
import Derived.Test.Qxb6603916aDoorModel
namespace Go.Proofs.Qxb6603916aDoor
open Go.RowKit Go.Lib Plain

set_option maxHeartbeats 400000 in
theorem law3 (s : ByteArray) (w : World) (hx : s.size ≤ maxLen) :
    Calls Tryd.prog 3 #[.string s] w fun e w' => e = .returned (.bool true) ∧ Below w.heap.size w w' := by
  by_cases hs : s.size ≤ 1048576
  · have C5 := hide (bytes5 s w hs)
    have C6 := hide (zdecimal_any s w (by omega))
    have C7 := hide (fun w => model_any s w hs)
    go_enter Tryd.func3, Tryd.ntmps3
    go_wp2_with fail
    refine (unhide C5).mono ?_
    rintro e w1 ⟨rfl, rfl⟩
    go_wp2_with fail
    refine (unhide C6).mono ?_
    rintro e w2 ⟨rfl, hq⟩
    have hb2 := below_of_drewN hq
    clear hq
    go_wp2_with fail
    refine (unhide C7 _).mono ?_
    rintro e w3 ⟨rfl, hb3⟩
    have hb := hb2.trans (hb3.mono hb2.size)
    clear hb2 hb3
    go_wp2
    go_ret
    exact ⟨by simp, hb⟩
  · have C5 := hide (bytes5_no s w (by omega) hx)
    go_enter Tryd.func3, Tryd.ntmps3
    go_wp2_with fail
    refine (unhide C5).mono ?_
    rintro e w1 ⟨rfl, rfl⟩
    go_wp2
    go_ret; exact ⟨rfl, Below.refl _ _⟩

end Go.Proofs.Qxb6603916aDoor
