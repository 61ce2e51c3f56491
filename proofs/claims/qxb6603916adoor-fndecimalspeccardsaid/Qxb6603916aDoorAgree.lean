/-
  THE WALKS of seat b6603916aD, third text: the two exported shims, zzIsDigit, and the law on exponents.
-/
import Derived.Test.Qxb6603916aDoorDec
namespace Go.Proofs.Qxb6603916aDoor
open Go.RowKit Go.Lib Plain

def digI (c : Int) : Bool := decide (48 ≤ c) && decide (c ≤ 57)
theorem digI_of (b : UInt8) : digI (b.toNat : Int) = dig b := by
  unfold digI dig
  rw [Bool.eq_iff_iff]; simp only [Bool.and_eq_true, decide_eq_true_eq]; omega
theorem bool_ret {a b : Bool} (h : a = b) : Ending.returned (Value.bool a) = .returned (.bool b) := by rw [h]

set_option maxHeartbeats 400000 in
theorem isDigit_any (c : Int) (w : World) : Calls Tryd.prog 9 #[.int .u8 c] w fun e w' => e = .returned (.bool (digI c)) ∧ w' = w := by
  go_enter Tryd.func9, Tryd.ntmps9
  go_wp2
  all_goals (go_ret; refine ⟨bool_ret ?_, rfl⟩; unfold digI; rw [Bool.eq_iff_iff]; simp only [Bool.and_eq_true, decide_eq_true_eq]; first | omega | (rw [true_iff]; omega) | (simp; omega))

set_option maxHeartbeats 400000 in
theorem zdecimal_any (s : ByteArray) (w : World) (hs : s.size ≤ 1048577) :
    Calls Tryd.prog 6 #[.string s] w fun e w' => e = .returned (.tuple #[.string (numB s), .bool (intB s), .bool (okB s)]) ∧ ∃ n, w' = w.drewN n := by
  have C := hide (decimal_any s w hs)
  go_enter Tryd.func6, Tryd.ntmps6
  go_wp2_with fail
  refine (unhide C).mono ?_
  rintro e w1 ⟨rfl, hq⟩
  go_wp2
  go_ret3
  exact ⟨rfl, hq⟩
set_option maxHeartbeats 400000 in
theorem zexponent_any (s : ByteArray) (w : World) (hs : s.size ≤ 1048577) :
    Calls Tryd.prog 10 #[.string s] w fun e w' => e = .returned (.tuple #[.string (expB s), .bool (expOK s)]) ∧ ∃ n, w' = w.drewN n := by
  have C := hide (exponent_any s w hs)
  go_enter Tryd.func10, Tryd.ntmps10
  go_wp2_with fail
  refine (unhide C).mono ?_
  rintro e w1 ⟨rfl, hq⟩
  go_wp2
  go_ret2
  exact ⟨rfl, hq⟩

/-- The second law's plain facts, at the bytes. -/
theorem one_facts (s : ByteArray) (h : ∀ c r, s.data.toList = c :: r → dig c = false ∧ c ≠ 46) :
    (expOK s = false ∧ numB (⟨#[49]⟩ ++ s) = ⟨#[]⟩ ∧ intB (⟨#[49]⟩ ++ s) = false ∧ okB (⟨#[49]⟩ ++ s) = false ∧ expB s = ⟨#[]⟩) ∨
    (expOK s = true ∧ numB (⟨#[49]⟩ ++ s) = ⟨#[49]⟩ ++ expB s ∧ intB (⟨#[49]⟩ ++ s) = (expB s).toList.isEmpty ∧ okB (⟨#[49]⟩ ++ s) = true) := by
  have hd := dec_one s.data.toList h
  have hl : ((⟨#[49]⟩ : ByteArray) ++ s).data.toList = 49 :: s.data.toList := by simp
  unfold numB intB okB expOK
  rw [hl, hd]
  cases he : expOf s.data.toList with
  | none =>
    refine .inl ⟨rfl, rfl, rfl, rfl, ?_⟩
    apply ba_ext
    rw [expB_data, he]; rfl
  | some e =>
    have e1 : (expB s).data.toList = e := by rw [expB_data, he]; rfl
    refine .inr ⟨rfl, ?_, ?_, rfl⟩
    · apply ba_ext
      simp [e1]
    · rw [← dec_empty, e1]; rfl

theorem below_of_drewN {w w' : World} (h : ∃ n, w' = w.drewN n) : Below w.heap.size w w' := by
  obtain ⟨n, rfl⟩ := h
  exact ⟨rfl, rfl, rfl, Nat.le_refl _, fun _ _ => rfl⟩

set_option maxHeartbeats 4000000 in
theorem law4 (s : ByteArray) (w : World) (hx : s.size ≤ maxLen) :
    Calls Tryd.prog 4 #[.string s] w fun e w' => e = .returned (.bool true) ∧ ∃ n, w' = w.drewN n := by
  by_cases hs : s.size ≤ 1048576
  · have C8 := hide (bytes8 s w hs)
    have C9 := hide isDigit_any
    have C6 := hide (fun w => zdecimal_any (⟨#[49]⟩ ++ s) w (by simp only [ByteArray.size_append]; show 1 + s.size ≤ _; omega))
    have C10 := hide (fun w => zexponent_any s w (by omega))
    have hel := expB_le s
    by_cases h0 : s.size = 0
    · have x0 := isE h0
      have hall : ∀ c r, s.data.toList = c :: r → dig c = false ∧ c ≠ 46 := by
        intro c r e; rw [nil_of_size h0] at e; cases e
      rcases one_facts s hall with ⟨f1, f2, f3, f4, f5⟩ | ⟨f1, f2, f3, f4⟩
      · rw [f2, f3, f4] at C6
        rw [f1, f5] at C10
        clear f1 f2 f3 f4 f5 hall
        go_enter Tryd.func4, Tryd.ntmps4
        go_wp2_with fail
        refine (unhide C8).mono ?_
        rintro e w1 ⟨rfl, rfl⟩
        go_wp2_with fail
        refine (unhide C6 _).mono ?_
        rintro e w2 ⟨rfl, hq2⟩
        go_wp2_with fail
        refine (unhide C10 _).mono ?_
        rintro e w3 ⟨rfl, n3, hw3⟩
        have hq3 : ∃ n, w3 = w1.drewN n := by rw [hw3]; exact Qn hq2 _
        clear hw3
        go_wp2
        go_ret
        exact ⟨rfl, hq3⟩
      · rw [f2, f3, f4] at C6
        rw [f1] at C10
        clear f1 f2 f3 f4 hall
        by_cases ez : (expB s).size = 0
        · have xe := isE ez
          go_enter Tryd.func4, Tryd.ntmps4
          go_wp2_with fail
          refine (unhide C8).mono ?_
          rintro e w1 ⟨rfl, rfl⟩
          go_wp2_with fail
          refine (unhide C6 _).mono ?_
          rintro e w2 ⟨rfl, hq2⟩
          go_wp2_with fail
          refine (unhide C10 _).mono ?_
          rintro e w3 ⟨rfl, n3, hw3⟩
          have hq3 : ∃ n, w3 = w1.drewN n := by rw [hw3]; exact Qn hq2 _
          clear hw3
          go_wp2
          go_ret
          exact ⟨by simp, hq3⟩
        · exact absurd (show (expB s).size = 0 by omega) ez
    · have x0 := notE h0
      have s1 : 0 < s.size := by omega
      have e1 : s.data.toList = s[0] :: s.data.toList.drop 1 := by have := drop_at s 0 s1; rwa [List.drop_zero] at this
      cases hd : dig s[0] with
      | true =>
        have ND : Hid (digI (s[0].toNat : Int) = true) := hide (by rw [digI_of]; exact hd)
        clear C6 C10 e1 hd
        go_enter Tryd.func4, Tryd.ntmps4
        go_wp2_with fail
        refine (unhide C8).mono ?_
        rintro e w1 ⟨rfl, rfl⟩
        go_wp2_with fail
        refine (unhide C9 _ _).mono ?_
        rintro e w1 ⟨rfl, rfl⟩
        rw [unhide ND]
        go_wp2
        go_ret
        exact ⟨rfl, 0, rfl⟩
      | false =>
        have ND : Hid (digI (s[0].toNat : Int) = false) := hide (by rw [digI_of]; exact hd)
        by_cases h46 : (s[0].toNat : Int) = 46
        · have ND' : Hid (digI 46 = false) := hide rfl
          clear C6 C10 e1 hd ND
          go_enter Tryd.func4, Tryd.ntmps4
          go_wp2_with fail
          refine (unhide C8).mono ?_
          rintro e w1 ⟨rfl, rfl⟩
          go_wp2_with fail
          refine (unhide C9 _ _).mono ?_
          rintro e w1 ⟨rfl, rfl⟩
          rw [unhide ND']
          go_wp2
          go_ret
          exact ⟨rfl, 0, rfl⟩
        · have hall : ∀ c r, s.data.toList = c :: r → dig c = false ∧ c ≠ 46 := by
            intro c r e
            rw [e1] at e
            obtain ⟨rfl, _⟩ := List.cons.inj e
            exact ⟨hd, fun x => h46 (by rw [x]; rfl)⟩
          have m46 : ((s[0].toNat : Int) == 46) = false := by rw [beq_eq_false_iff_ne]; exact h46
          clear e1 hd
          rcases one_facts s hall with ⟨f1, f2, f3, f4, f5⟩ | ⟨f1, f2, f3, f4⟩
          · rw [f2, f3, f4] at C6
            rw [f1, f5] at C10
            clear f1 f2 f3 f4 f5 hall
            go_enter Tryd.func4, Tryd.ntmps4
            go_wp2_with fail
            refine (unhide C8).mono ?_
            rintro e w1 ⟨rfl, rfl⟩
            go_wp2_with fail
            refine (unhide C9 _ _).mono ?_
            rintro e w1 ⟨rfl, rfl⟩
            rw [unhide ND]
            go_wp2_with fail
            refine (unhide C6 _).mono ?_
            rintro e w2 ⟨rfl, hq2⟩
            go_wp2_with fail
            refine (unhide C10 _).mono ?_
            rintro e w3 ⟨rfl, n3, hw3⟩
            have hq3 : ∃ n, w3 = w1.drewN n := by rw [hw3]; exact Qn hq2 _
            clear hw3
            go_wp2
            go_ret
            exact ⟨rfl, hq3⟩
          · rw [f2, f3, f4] at C6
            rw [f1] at C10
            clear f1 f2 f3 f4 hall
            by_cases ez : (expB s).size = 0
            · have xe := isE ez
              go_enter Tryd.func4, Tryd.ntmps4
              go_wp2_with fail
              refine (unhide C8).mono ?_
              rintro e w1 ⟨rfl, rfl⟩
              go_wp2_with fail
              refine (unhide C9 _ _).mono ?_
              rintro e w1 ⟨rfl, rfl⟩
              rw [unhide ND]
              go_wp2_with fail
              refine (unhide C6 _).mono ?_
              rintro e w2 ⟨rfl, hq2⟩
              go_wp2_with fail
              refine (unhide C10 _).mono ?_
              rintro e w3 ⟨rfl, n3, hw3⟩
              have hq3 : ∃ n, w3 = w1.drewN n := by rw [hw3]; exact Qn hq2 _
              clear hw3
              go_wp2
              go_ret
              exact ⟨by simp, hq3⟩
            · have xe := notE ez
              go_enter Tryd.func4, Tryd.ntmps4
              go_wp2_with fail
              refine (unhide C8).mono ?_
              rintro e w1 ⟨rfl, rfl⟩
              go_wp2_with fail
              refine (unhide C9 _ _).mono ?_
              rintro e w1 ⟨rfl, rfl⟩
              rw [unhide ND]
              go_wp2_with fail
              refine (unhide C6 _).mono ?_
              rintro e w2 ⟨rfl, hq2⟩
              go_wp2_with fail
              refine (unhide C10 _).mono ?_
              rintro e w3 ⟨rfl, n3, hw3⟩
              have hq3 : ∃ n, w3 = w1.drewN n := by rw [hw3]; exact Qn hq2 _
              clear hw3
              go_wp2
              go_ret
              exact ⟨by simp, hq3⟩
  · have C8 := hide (bytes8_no s w (by omega) hx)
    go_enter Tryd.func4, Tryd.ntmps4
    go_wp2_with fail
    refine (unhide C8).mono ?_
    rintro e w1 ⟨rfl, rfl⟩
    go_wp2
    go_ret; exact ⟨rfl, 0, rfl⟩

end Go.Proofs.Qxb6603916aDoor
