/-
  THE WALK of FnInfoFieldHeadLineWins, seat b6603845aD.
-/
import Derived.Test.Qxb6603845aDoorInfo
namespace Go.Proofs.Qxb6603845aDoor
open Go.RowKit Go.Lib Plain

set_option maxHeartbeats 400000 in
theorem zzInfo (info field : ByteArray) (v : List UInt8) (i : Nat) (hi : Lib.indexByte info.data.toList 10 = (i : Int)) (hlt : i < info.size) (hs : info.size ≤ 4194304)
    (hts : (Lib.trimSpaceD (info.extract 0 (i + 1)).data.toList).length < 4294967281) (hcut : Lib.cut (Lib.trimSpaceD (info.extract 0 (i + 1)).data.toList) [58] = (field.data.toList, v, true)) (w : World) (T : Tabs w) :
    Calls Tryd.prog 7 #[.string info, .string field] w fun e w' => e = .returned (.tuple #[.string ⟨v.toArray⟩, .bool true]) ∧ Below w.heap.size w w' := by
  have C := hide (infoField_first info field v i hi hlt hs hts hcut w T)
  clear hi hts hcut
  go_enter Tryd.func7, Tryd.ntmps7
  go_wp2_with fail
  refine (unhide C).mono ?_
  rintro e w1 ⟨rfl, hb⟩
  go_wp2
  go_ret2; exact ⟨rfl, hb⟩

theorem info_list (field value tail : ByteArray) : ((((field ++ (⟨#[58]⟩ : ByteArray)) ++ value) ++ (⟨#[10]⟩ : ByteArray)) ++ tail).data.toList = field.data.toList ++ 58 :: (value.data.toList ++ 10 :: tail.data.toList) := by
  simp [ByteArray.data_append]
set_option maxHeartbeats 1000000 in
theorem law_big (field value tail : ByteArray) (w : World) (h1 : field.size ≤ maxLen) (h2 : value.size ≤ maxLen) (h3 : tail.size ≤ maxLen) (h : ¬ field.size + value.size + tail.size ≤ 1048576) :
    Calls Tryd.prog 3 #[.string field, .string value, .string tail] w fun e w' => e = .returned (.bool true) ∧ Below w.heap.size w w' := by
  have C4 := hide (bytes4 field value tail w h1 h2 h3)
  rw [decide_eq_false h] at C4
  go_enter Tryd.func3, Tryd.ntmps3
  go_wp2_with fail
  refine (unhide C4).mono ?_
  rintro e w1 ⟨rfl, rfl⟩
  go_wp2
  go_ret; exact ⟨rfl, Below.refl _ _⟩
set_option maxHeartbeats 1000000 in
theorem law_size (field value tail : ByteArray) (w : World) (h : field.size + value.size + tail.size ≤ 1048576) (hb : 262144 < field.size ∨ 262144 < value.size ∨ 262144 < tail.size) :
    Calls Tryd.prog 3 #[.string field, .string value, .string tail] w fun e w' => e = .returned (.bool true) ∧ Below w.heap.size w w' := by
  have C4 := hide (bytes4 field value tail w (by unfold maxLen; omega) (by unfold maxLen; omega) (by unfold maxLen; omega))
  rw [decide_eq_true h] at C4
  by_cases b1 : 262144 < field.size
  · clear hb
    go_enter Tryd.func3, Tryd.ntmps3
    go_wp2_with fail
    refine (unhide C4).mono ?_
    rintro e w1 ⟨rfl, rfl⟩
    go_wp2
    go_ret; exact ⟨rfl, Below.refl _ _⟩
  · by_cases b2 : 262144 < value.size
    · clear hb
      go_enter Tryd.func3, Tryd.ntmps3
      go_wp2_with fail
      refine (unhide C4).mono ?_
      rintro e w1 ⟨rfl, rfl⟩
      go_wp2
      go_ret; exact ⟨rfl, Below.refl _ _⟩
    · have b3 : 262144 < tail.size := by omega
      clear hb
      go_enter Tryd.func3, Tryd.ntmps3
      go_wp2_with fail
      refine (unhide C4).mono ?_
      rintro e w1 ⟨rfl, rfl⟩
      go_wp2
      go_ret; exact ⟨rfl, Below.refl _ _⟩

theorem idx_of (c : UInt8) (r : List UInt8) : ∀ (p : List UInt8), c ∉ p → Lib.indexByte (p ++ c :: r) c = (p.length : Int)
  | [], _ => by simp [Lib.indexByte]
  | x :: p, h => by
    have hx : x ≠ c := fun e => h (by rw [e]; simp)
    have ih := idx_of c r p (fun e => h (List.mem_cons_of_mem _ e))
    rw [List.cons_append, Lib.indexByte, if_neg (by simpa using hx), ih, if_neg (by rw [beq_iff_eq]; omega)]
    simp
theorem trimR_len : ∀ (f : Nat) (l : List UInt8), (trimR f l).length ≤ l.length
  | 0, l => Nat.le_refl _
  | f + 1, l => by
    unfold trimR
    by_cases h : endW l = 0
    · rw [if_pos h]; exact Nat.le_refl _
    · rw [if_neg h]; exact Nat.le_trans (trimR_len f _) (by rw [List.length_take]; omega)
theorem below_drawn {w w1 : World} (h : ∃ n, w1 = w.drewN n) : Below w.heap.size w w1 := by
  obtain ⟨n, rfl⟩ := h; exact ⟨rfl, rfl, rfl, Nat.le_refl _, fun _ _ => rfl⟩

theorem has58 (s : ByteArray) (hs : s.size ≤ 1048576) (b : Bool) (h : hasL 58 s.data.toList = b) (w : World) : Calls Tryd.prog 5 #[.string s, .int .u8 58] w fun e w' => e = .returned (.bool b) ∧ w' = w := by
  rw [← h]; exact hasByte_any s 58 w hs
theorem has10 (s : ByteArray) (hs : s.size ≤ 1048576) (b : Bool) (h : hasL 10 s.data.toList = b) (w : World) : Calls Tryd.prog 5 #[.string s, .int .u8 10] w fun e w' => e = .returned (.bool b) ∧ w' = w := by
  rw [← h]; exact hasByte_any s 10 w hs

set_option maxHeartbeats 1000000 in
theorem law_has1 (field value tail : ByteArray) (w : World) (h : field.size + value.size + tail.size ≤ 1048576) (b1 : field.size ≤ 262144) (b2 : value.size ≤ 262144) (b3 : tail.size ≤ 262144) (k1 : hasL 58 field.data.toList = true) :
    Calls Tryd.prog 3 #[.string field, .string value, .string tail] w fun e w' => e = .returned (.bool true) ∧ Below w.heap.size w w' := by
  have C4 := hide (bytes4 field value tail w (by unfold maxLen; omega) (by unfold maxLen; omega) (by unfold maxLen; omega))
  rw [decide_eq_true h] at C4
  have C1 := hide (has58 field (by omega) _ k1)
  clear k1
  go_enter Tryd.func3, Tryd.ntmps3
  go_wp2_with fail
  refine (unhide C4).mono ?_
  rintro e w1 ⟨rfl, rfl⟩
  go_wp2_with fail
  refine (unhide C1 _).mono ?_
  rintro e w2 ⟨rfl, rfl⟩
  go_wp2
  go_ret; exact ⟨rfl, Below.refl _ _⟩
set_option maxHeartbeats 1000000 in
theorem law_has2 (field value tail : ByteArray) (w : World) (h : field.size + value.size + tail.size ≤ 1048576) (b1 : field.size ≤ 262144) (b2 : value.size ≤ 262144) (b3 : tail.size ≤ 262144) (k1 : hasL 58 field.data.toList = false) (k2 : hasL 10 field.data.toList = true) :
    Calls Tryd.prog 3 #[.string field, .string value, .string tail] w fun e w' => e = .returned (.bool true) ∧ Below w.heap.size w w' := by
  have C4 := hide (bytes4 field value tail w (by unfold maxLen; omega) (by unfold maxLen; omega) (by unfold maxLen; omega))
  rw [decide_eq_true h] at C4
  have C1 := hide (has58 field (by omega) _ k1)
  have C2 := hide (has10 field (by omega) _ k2)
  clear k1 k2
  go_enter Tryd.func3, Tryd.ntmps3
  go_wp2_with fail
  refine (unhide C4).mono ?_
  rintro e w1 ⟨rfl, rfl⟩
  go_wp2_with fail
  refine (unhide C1 _).mono ?_
  rintro e w2 ⟨rfl, rfl⟩
  go_wp2_with fail
  refine (unhide C2 _).mono ?_
  rintro e w2 ⟨rfl, rfl⟩
  go_wp2
  go_ret; exact ⟨rfl, Below.refl _ _⟩
set_option maxHeartbeats 1000000 in
theorem law_has3 (field value tail : ByteArray) (w : World) (h : field.size + value.size + tail.size ≤ 1048576) (b1 : field.size ≤ 262144) (b2 : value.size ≤ 262144) (b3 : tail.size ≤ 262144) (k1 : hasL 58 field.data.toList = false) (k2 : hasL 10 field.data.toList = false) (k3 : hasL 10 value.data.toList = true) :
    Calls Tryd.prog 3 #[.string field, .string value, .string tail] w fun e w' => e = .returned (.bool true) ∧ Below w.heap.size w w' := by
  have C4 := hide (bytes4 field value tail w (by unfold maxLen; omega) (by unfold maxLen; omega) (by unfold maxLen; omega))
  rw [decide_eq_true h] at C4
  have C1 := hide (has58 field (by omega) _ k1)
  have C2 := hide (has10 field (by omega) _ k2)
  have C3 := hide (has10 value (by omega) _ k3)
  clear k1 k2 k3
  go_enter Tryd.func3, Tryd.ntmps3
  go_wp2_with fail
  refine (unhide C4).mono ?_
  rintro e w1 ⟨rfl, rfl⟩
  go_wp2_with fail
  refine (unhide C1 _).mono ?_
  rintro e w2 ⟨rfl, rfl⟩
  go_wp2_with fail
  refine (unhide C2 _).mono ?_
  rintro e w2 ⟨rfl, rfl⟩
  go_wp2_with fail
  refine (unhide C3 _).mono ?_
  rintro e w2 ⟨rfl, rfl⟩
  go_wp2
  go_ret; exact ⟨rfl, Below.refl _ _⟩
set_option maxHeartbeats 1000000 in
theorem law_start (field value tail : ByteArray) (w : World) (h : field.size + value.size + tail.size ≤ 1048576) (b1 : field.size ≤ 262144) (b2 : value.size ≤ 262144) (b3 : tail.size ≤ 262144) (k1 : hasL 58 field.data.toList = false) (k2 : hasL 10 field.data.toList = false) (k3 : hasL 10 value.data.toList = false)
    (k : Nat) (hk : startW field.data.toList = k) (hk0 : 0 < k) :
    Calls Tryd.prog 3 #[.string field, .string value, .string tail] w fun e w' => e = .returned (.bool true) ∧ Below w.heap.size w w' := by
  have C4 := hide (bytes4 field value tail w (by unfold maxLen; omega) (by unfold maxLen; omega) (by unfold maxLen; omega))
  rw [decide_eq_true h] at C4
  have C1 := hide (has58 field (by omega) _ k1)
  have C2 := hide (has10 field (by omega) _ k2)
  have C3 := hide (has10 value (by omega) _ k3)
  have C6 := hide (fun w => whiteAtStart_any field w (by omega))
  rw [hk] at C6
  clear k1 k2 k3 hk
  go_enter Tryd.func3, Tryd.ntmps3
  go_wp2_with fail
  refine (unhide C4).mono ?_
  rintro e w1 ⟨rfl, rfl⟩
  go_wp2_with fail
  refine (unhide C1 _).mono ?_
  rintro e w2 ⟨rfl, rfl⟩
  go_wp2_with fail
  refine (unhide C2 _).mono ?_
  rintro e w2 ⟨rfl, rfl⟩
  go_wp2_with fail
  refine (unhide C3 _).mono ?_
  rintro e w2 ⟨rfl, rfl⟩
  go_wp2_with fail
  refine (unhide C6 _).mono ?_
  rintro e w3 ⟨rfl, hw3⟩
  have hb := below_drawn hw3
  clear hw3
  go_wp2
  go_ret; exact ⟨rfl, hb⟩
set_option maxHeartbeats 1000000 in
theorem law_main (field value tail : ByteArray) (w : World) (h : field.size + value.size + tail.size ≤ 1048576) (b1 : field.size ≤ 262144) (b2 : value.size ≤ 262144) (b3 : tail.size ≤ 262144) (k1 : hasL 58 field.data.toList = false) (k2 : hasL 10 field.data.toList = false) (k3 : hasL 10 value.data.toList = false)
    (hk : startW field.data.toList = 0) (T : Tabs w) :
    Calls Tryd.prog 3 #[.string field, .string value, .string tail] w fun e w' => e = .returned (.bool true) ∧ Below w.heap.size w w' := by
  have C4 := hide (bytes4 field value tail w (by unfold maxLen; omega) (by unfold maxLen; omega) (by unfold maxLen; omega))
  rw [decide_eq_true h] at C4
  have C1 := hide (has58 field (by omega) _ k1)
  have C2 := hide (has10 field (by omega) _ k2)
  have C3 := hide (has10 value (by omega) _ k3)
  have C6 := hide (fun w => whiteAtStart_any field w (by omega))
  have C8 := hide (fun w => trimWhiteRight_any value w (by omega))
  have C7 : Hid (∀ w, Tabs w → Calls Tryd.prog 7 #[.string ((((field ++ (⟨#[58]⟩ : ByteArray)) ++ value) ++ (⟨#[10]⟩ : ByteArray)) ++ tail), .string field] w fun e w' => e = .returned (.tuple #[.string ⟨(trimW value.data.toList).toArray⟩, .bool true]) ∧ Below w.heap.size w w') := hide (fun w T => by
    have n58 : (58 : UInt8) ∉ field.data.toList := of_decide_eq_false k1
    have n10 : (10 : UInt8) ∉ field.data.toList := of_decide_eq_false k2
    have v10 : (10 : UInt8) ∉ value.data.toList := of_decide_eq_false k3
    obtain ⟨info, hinfo⟩ : ∃ info, info = ((((field ++ (⟨#[58]⟩ : ByteArray)) ++ value) ++ (⟨#[10]⟩ : ByteArray)) ++ tail) := ⟨_, rfl⟩
    have hl := info_list field value tail
    rw [← hinfo] at hl ⊢
    have lf : field.data.toList.length = field.size := by simp
    have lv : value.data.toList.length = value.size := by simp
    have lt : tail.data.toList.length = tail.size := by simp
    have li : info.data.toList.length = info.size := by simp
    have hsz : info.size = field.size + value.size + tail.size + 2 := by
      rw [← li, hl]; simp only [List.length_append, List.length_cons, lf, lv, lt]; omega
    have hl2 : info.data.toList = (field.data.toList ++ 58 :: value.data.toList) ++ 10 :: tail.data.toList := by rw [hl]; simp
    have lp : (field.data.toList ++ 58 :: value.data.toList).length = field.size + value.size + 1 := by simp only [List.length_append, List.length_cons, lf, lv]; omega
    have hidx : Lib.indexByte info.data.toList 10 = ((field.size + value.size + 1 : Nat) : Int) := by
      rw [hl2, idx_of 10 _ _ (by simp only [List.mem_append, List.mem_cons, not_or]; exact ⟨n10, by decide, v10⟩), lp]
    have hline : (info.extract 0 (field.size + value.size + 1 + 1)).data.toList = field.data.toList ++ 58 :: (value.data.toList ++ [10]) := by
      rw [extract_take, hl2, show field.size + value.size + 1 + 1 = (field.data.toList ++ 58 :: value.data.toList).length + 1 by rw [lp], List.take_length_add_append]
      simp
    have htr : Lib.trimSpaceD (info.extract 0 (field.size + value.size + 1 + 1)).data.toList = field.data.toList ++ 58 :: trimW value.data.toList := by rw [hline]; exact line_trim _ _ hk
    have hlen : (trimW value.data.toList).length ≤ value.data.toList.length := trimR_len _ _
    refine zzInfo info field (trimW value.data.toList) (field.size + value.size + 1) hidx (by omega) (by omega) ?_ ?_ w T
    · rw [htr]; simp only [List.length_append, List.length_cons, lf]; omega
    · rw [htr]; exact cut_field _ _ n58)
  rw [hk] at C6
  clear k1 k2 k3 hk
  go_enter Tryd.func3, Tryd.ntmps3
  go_wp2_with fail
  refine (unhide C4).mono ?_
  rintro e w1 ⟨rfl, rfl⟩
  go_wp2_with fail
  refine (unhide C1 _).mono ?_
  rintro e w2 ⟨rfl, rfl⟩
  go_wp2_with fail
  refine (unhide C2 _).mono ?_
  rintro e w2 ⟨rfl, rfl⟩
  go_wp2_with fail
  refine (unhide C3 _).mono ?_
  rintro e w2 ⟨rfl, rfl⟩
  go_wp2_with fail
  refine (unhide C6 _).mono ?_
  rintro e w3 ⟨rfl, hw3⟩
  have hb := below_drawn hw3
  have T3 := T.below hb
  clear hw3 T
  go_wp2_with fail
  refine (unhide C7 _ T3).mono ?_
  rintro e w4 ⟨rfl, hb4⟩
  have hb4' := hb.trans (hb4.mono hb.size)
  go_wp2_with fail
  refine (unhide C8 _).mono ?_
  rintro e w5 ⟨rfl, hw5⟩
  have hb5 := hb4'.trans ((below_drawn hw5).mono hb4'.size)
  clear hw5
  go_wp2
  go_ret; exact ⟨by simp, hb5⟩
theorem law3 (field value tail : ByteArray) (w : World) (h1 : field.size ≤ maxLen) (h2 : value.size ≤ maxLen) (h3 : tail.size ≤ maxLen) (T : Tabs w) :
    Calls Tryd.prog 3 #[.string field, .string value, .string tail] w fun e w' => e = .returned (.bool true) ∧ Below w.heap.size w w' := by
  by_cases h : field.size + value.size + tail.size ≤ 1048576
  · by_cases hb : 262144 < field.size ∨ 262144 < value.size ∨ 262144 < tail.size
    · exact law_size field value tail w h hb
    · have b1 : field.size ≤ 262144 := by omega
      have b2 : value.size ≤ 262144 := by omega
      have b3 : tail.size ≤ 262144 := by omega
      cases k1 : hasL 58 field.data.toList with
      | true => exact law_has1 field value tail w h b1 b2 b3 k1
      | false =>
        cases k2 : hasL 10 field.data.toList with
        | true => exact law_has2 field value tail w h b1 b2 b3 k1 k2
        | false =>
          cases k3 : hasL 10 value.data.toList with
          | true => exact law_has3 field value tail w h b1 b2 b3 k1 k2 k3
          | false =>
            rcases Nat.eq_zero_or_pos (startW field.data.toList) with hk | hk
            · exact law_main field value tail w h b1 b2 b3 k1 k2 k3 hk T
            · exact law_start field value tail w h b1 b2 b3 k1 k2 k3 _ rfl hk
  · exact law_big field value tail w h1 h2 h3 h
end Go.Proofs.Qxb6603845aDoor
