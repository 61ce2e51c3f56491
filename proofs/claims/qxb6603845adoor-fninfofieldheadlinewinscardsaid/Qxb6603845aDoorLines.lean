/-
  THE WALK of strings.Lines and of its closure, seat b6603845aD: THE FIRST LINE IS HANDED TO yield, AND yield SAYS 'NO MORE'.
-/
import Derived.RangeFuncNested
import Derived.RangeFuncBound
import Derived.RangeFuncCalls
import Derived.RangeFuncLeaves
import Derived.Shelf.Abstract
import Derived.Shelf.RegionOpen
import Derived.WalkKit
import Derived.OwnWalkIn
import Derived.TacticsInMore
import Derived.LoopNIn
import Derived.LoopIn
import Derived.Test.Qxb6603845aDoorShelf
import Derived.Test.Qxb6603845aDoorTrimR
namespace Go.Proofs.Qxb6603845aDoor
open Go.RowKit Go.Lib Plain Go.Shelf
attribute [local go_sem] Oper.semAt_some

theorem slice_to (v : ByteArray) (k : Nat) (h : k ≤ v.size) (wx : World) : (Instr.slice 9 (.string v) none (some (.int .i64 (k : Int))) none).run Tryd.prog wx = .ok (.string (v.extract 0 k)) wx := by
  rw [run_slice_string_to_if (t := 9) (s := v) (k := .i64) (j := k) (h := Tryd.underlying9), if_pos ⟨by omega, by omega⟩, Int.toNat_natCast]
theorem slice_from (v : ByteArray) (k : Nat) (h : k ≤ v.size) (wx : World) : (Instr.slice 9 (.string v) (some (.int .i64 (k : Int))) none none).run Tryd.prog wx = .ok (.string (v.extract k v.size)) wx := by
  rw [run_slice_string_from_if (t := 9) (s := v) (k := .i64) (i := k) (h := Tryd.underlying9), if_pos ⟨by omega, by omega⟩, Int.toNat_natCast]

set_option maxRecDepth 100000 in
set_option maxHeartbeats 1000000 in
theorem lines1 (m l B : Nat) (s : ByteArray) (i : Nat) (hi : Lib.indexByte s.data.toList 10 = (i : Int)) (hlt : i < s.size) (hs : s.size ≤ 4194304) (W : World)
    (hc : W.cell? ⟨B, 0, none⟩ = some (.string s)) (hf : W.frozen? ⟨B, 0, none⟩ = false) (R : World → Prop)
    (hY : ∀ W1, W1 = (W.setCell ⟨B, 0, none⟩ (.string (s.extract (i + 1) s.size))).drew → YieldAt Fence.wide (m - 1) Tryd.prog l #[.string (s.extract 0 (i + 1))] W1 fun e W' => e = .returned (.bool false) ∧ R W') :
    CallsIn Fence.wide m Tryd.prog 16 #[.func (.yield l) #[] #[], .pointer (some ⟨B, 0, none⟩)] W fun e W' => (∃ v, e = .returned v) ∧ R W' := by
  have HI := hide hi
  clear hi
  have HY := hide hY
  clear hY
  have sl1 := slice_to s (i + 1) (by omega)
  have sl2 := slice_from s (i + 1) (by omega)
  rw [show ((i + 1 : Nat) : Int) = (i : Int) + 1 by omega] at sl1 sl2
  refine callsIn_of_wp Tryd.func16 rfl trivial ?_ rfl
  simp only [Tryd.ntmps16, List.size_toArray, List.length_cons, List.length_nil, Nat.reduceAdd, Nat.reduceSub, Array.replicate_succ, Array.replicate_zero, List.push_toArray, List.append_toArray, List.nil_append, List.cons_append]
  gi_wp2
  refine wpIn_loop_rounds 1 ?_
  rw [roundsIn_succ]
  gi_wp2
  refine ⟨trivial, (fun h => by cases h), ?_⟩
  refine (callsIn_wide.2 (Tryd.strings_IndexByte s 10 W)).mono ?_
  rintro e w1 ⟨rfl, rfl⟩
  rw [show ((10 : Int).toNat.toUInt8) = 10 from rfl, unhide HI]
  gi_wp2
  gi_region
  obtain ⟨fn, tmps, assign, body, hy, hR⟩ := unhide HY _ rfl
  gi_wp2
  refine ⟨(fun h => by cases h), hR.mono ?_⟩
  rintro e W2 ⟨rfl, hr⟩
  gi_wp2
  refine bodyPost_ret (results_none rfl _ _ _) rfl ?_
  exact ⟨⟨_, rfl⟩, hr⟩

set_option maxHeartbeats 400000 in
theorem lines_any (s : ByteArray) (w : World) :
    Calls Tryd.prog 13 #[.string s] w fun e w' => e = .returned (.func (.func 16) #[] #[.pointer (some ⟨w.heap.size, 0, none⟩)]) ∧ w' = w.alloc (.cells #[.string s] 9) := by
  go_enter Tryd.func13, Tryd.ntmps13
  go_wp2
  go_ret; exact ⟨rfl, rfl⟩
end Go.Proofs.Qxb6603845aDoor
