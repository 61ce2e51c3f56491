/-
  THE WALKS of seat b6603167aD, third text: the law on where Renamed splices.
-/
import Derived.Test.Qxb6603167aDoorWalksB
namespace Go.Proofs.Qxb6603167aDoor
open Go.RowKit Go.Lib Plain

theorem below_drewN {X : Nat} {a w : World} (h : Below X a w) (n : Nat) : Below X a (w.drewN n) := ⟨h.os, h.tape, h.output, h.size, h.block⟩

/-- The renamed text, in the walk's own slicings. -/
theorem spliced (u name : ByteArray) (ht : typeL u.data.toList ≠ []) : ∃ (v : ByteArray) (k : Nat), B (renL u.data.toList name.data.toList) = v ∧ 2 ≤ k ∧ k ≤ u.size ∧ v.size = k + name.size ∧ v.extract k (k + name.size) = name ∧ v.extract 0 k = u.extract 0 k ∧
    u.data.toList[k - 2]? = some 58 ∧ u.data.toList[k - 1]? = some 58 ∧ hasSepB (u.extract (k - 1) u.size).data.toList = false := by
  obtain ⟨k, h2, hk, e1, ea, eb, ec⟩ := ren_splices u.data.toList name.data.toList ht
  have hk' : k ≤ u.size := by simpa using hk
  have hv : (B (renL u.data.toList name.data.toList)).data.toList = u.data.toList.take k ++ name.data.toList := by rw [← e1]
  refine ⟨B (renL u.data.toList name.data.toList), k, rfl, h2, hk', ?_, ?_, ?_, ea, eb, ?_⟩
  · rw [size_eq, hv, List.length_append, List.length_take, ← size_eq, ← size_eq]; omega
  · apply ba_ext
    rw [extract_data, hv]
    rw [List.drop_append_of_le_length (by rw [List.length_take, ← size_eq]; omega), List.drop_of_length_le (by rw [List.length_take]; omega), List.nil_append]
    rw [List.take_of_length_le (by rw [← size_eq]; omega)]
  · apply ba_ext
    rw [extract_from_zero, extract_from_zero, hv, List.take_append_of_le_length (by rw [List.length_take, ← size_eq]; omega), List.take_take, Nat.min_self]
  · unfold hasSepB
    rw [extract_to_end, ec]; rfl

theorem slice_to (v : ByteArray) (k : Nat) (h : k ≤ v.size) (wx : World) : (Instr.slice 9 (.string v) none (some (.int .i64 (k : Int))) none).run Tryd.prog wx = .ok (.string (v.extract 0 k)) wx := by
  rw [run_slice_string_to_if (t := 9) (s := v) (k := .i64) (j := k) (h := Tryd.underlying9), if_pos ⟨by omega, by omega⟩, Int.toNat_natCast]

set_option maxHeartbeats 2000000 in
theorem law5 (u name : ByteArray) (m : Int) (w : World) (ha : u.size ≤ maxLen) (hb : name.size ≤ maxLen) (hm : w.cell? ⟨0, 0, none⟩ = some (.int .i64 m)) :
    Calls Tryd.prog 5 #[.string u, .string name] w fun e w' => e = .returned (.bool true) ∧ Below w.heap.size w w' := by
  by_cases hs : u.size + name.size ≤ 1048576
  · have C14 := hide (bytes14 u name w hs)
    by_cases hg : u.size ≤ 524288 ∧ name.size ≤ 524288
    · obtain ⟨ga, gb⟩ := hg
      have C15 := hide (renamed_any u name m w (by omega) (by omega) hm)
      have C10 := hide (fun w => model_any u w (by omega))
      have HL := hide (type_eq_model u.data.toList)
      clear ha hb
      by_cases ht : typeL u.data.toList = []
      · have C16 := hide (fun w => same_yes u u w (by omega) rfl)
        have e0 : B (renL u.data.toList name.data.toList) = u := by rw [ren_empty _ _ ht]
        rw [e0] at C15
        have e1 : modelL u.data.toList = [] := by rw [← unhide HL]; exact ht
        rw [e1] at C10
        clear e0 e1 ht HL
        go_enter Tryd.func5, Tryd.ntmps5
        go_wp2_with fail
        refine (unhide C14).mono ?_
        rintro e w1 ⟨rfl, rfl⟩
        go_wp2_with fail
        refine (unhide C15).mono ?_
        rintro e w2 ⟨rfl, hb⟩
        go_wp2_with fail
        refine (unhide C10 _).mono ?_
        rintro e w3 ⟨rfl, rfl⟩
        go_wp2_with fail
        refine (unhide C16 _).mono ?_
        rintro e w4 ⟨rfl, n, rfl⟩
        go_wp2
        go_ret
        exact ⟨rfl, below_drewN hb n⟩
      · obtain ⟨v, k, e0, h2, hk, hvs, hv1, hv2, b1, b2, hsep⟩ := spliced u name ht
        rw [e0] at C15
        have hem : (modelL u.data.toList).isEmpty = false := by rw [← unhide HL]; simpa using ht
        have C16a := hide (fun w => same_yes (v.extract k (k + name.size)) name w (by rw [hv1]; omega) hv1)
        have C16b := hide (fun w => same_yes (v.extract 0 k) (u.extract 0 k) w (by rw [hv2]; simp; omega) hv2)
        have C12 := hide (fun w => hasSep_any (u.extract (k - 1) u.size) w (by simp; omega))
        rw [hsep] at C12
        have B1 : Hid ((u[k - 2].toNat : Int) = 58) := hide (by rw [getAt u (k - 2) (by omega)] at b1; rw [Option.some.inj b1]; rfl)
        have B2 : Hid ((u[k - 1].toNat : Int) = 58) := hide (by rw [getAt u (k - 1) (by omega)] at b2; rw [Option.some.inj b2]; rfl)
        clear e0 hsep b1 b2 hv1 hv2 ht HL
        go_enter Tryd.func5, Tryd.ntmps5
        go_wp2_with fail
        refine (unhide C14).mono ?_
        rintro e w1 ⟨rfl, rfl⟩
        go_wp2_with fail
        refine (unhide C15).mono ?_
        rintro e w2 ⟨rfl, hb⟩
        go_wp2_with fail
        refine (unhide C10 _).mono ?_
        rintro e w3 ⟨rfl, rfl⟩
        go_wp2_with fail
        refine (unhide C16a _).mono ?_
        rintro e w4 ⟨rfl, n, hw4⟩
        have hb4 : Below w1.heap.size w1 w4 := by rw [hw4]; exact below_drewN hb n
        clear hw4 hb
        go_wp2_with fail
        have sl1 := slice_to v k (by omega)
        have sl2 := slice_to u k (by omega)
        go_quiet ((go_at_call 16; exact Calls.quiet_of (unhide C16b _)))
        clear sl1 sl2
        have b1 := unhide B1
        have b2 := unhide B2
        go_wp2_with fail
        refine (unhide C12 _).mono ?_
        rintro e w5 ⟨rfl, rfl⟩
        go_wp2
        go_ret
        exact ⟨rfl, below_drewN hb4 _⟩
    · go_enter Tryd.func5, Tryd.ntmps5
      go_wp2_with fail
      refine (unhide C14).mono ?_
      rintro e w1 ⟨rfl, rfl⟩
      go_wp2_with fail
      all_goals first | (go_ret; exact ⟨rfl, Below.refl _ _⟩) | (exfalso; omega)
  · have C14 := hide (bytes14_no u name w (by omega) ha hb)
    go_enter Tryd.func5, Tryd.ntmps5
    go_wp2_with fail
    refine (unhide C14).mono ?_
    rintro e w1 ⟨rfl, rfl⟩
    go_wp2
    go_ret; exact ⟨rfl, Below.refl _ _⟩
end Go.Proofs.Qxb6603167aDoor
