/-
  THE WALK of whiteAtEnd, seat b6603845aD.
-/
import Derived.Test.Qxb6603845aDoorStart
namespace Go.Proofs.Qxb6603845aDoor
open Go.RowKit Go.Lib Plain

theorem rev_take (s : ByteArray) (k : Nat) (h : k < s.size) : (s.data.toList.take (k + 1)).reverse = s[k] :: (s.data.toList.take k).reverse := by
  rw [List.take_succ_eq_append_getElem (by simpa using h), List.reverse_append]; rfl
theorem rev_at (s : ByteArray) (h : 0 < s.size) : s.data.toList.reverse = s[s.size - 1] :: (s.data.toList.take (s.size - 1)).reverse := by
  rw [← rev_take s (s.size - 1) (by omega), show s.size - 1 + 1 = s.data.toList.length by simp; omega, List.take_length]
theorem rev_2 (s : ByteArray) (h : 1 < s.size) : s.data.toList.reverse = s[s.size - 1] :: s[s.size - 2] :: (s.data.toList.take (s.size - 2)).reverse := by
  rw [rev_at s (by omega), ← rev_take s (s.size - 2) (by omega), show s.size - 2 + 1 = s.size - 1 by omega]
theorem rev_3 (s : ByteArray) (h : 2 < s.size) : s.data.toList.reverse = s[s.size - 1] :: s[s.size - 2] :: s[s.size - 3] :: (s.data.toList.take (s.size - 3)).reverse := by
  rw [rev_2 s (by omega), ← rev_take s (s.size - 3) (by omega), show s.size - 3 + 1 = s.size - 2 by omega]
theorem end_nil (s : ByteArray) (h : s.size = 0) : endW s.data.toList = 0 := by
  rw [List.eq_nil_of_length_eq_zero (l := s.data.toList) (by simpa using h)]; rfl
theorem end_1 (s : ByteArray) (h : 0 < s.size) (ha : asciiW s[s.size - 1] = true) : endW s.data.toList = 1 := by
  unfold endW; rw [rev_at s h]; simp [endRev, ha]
theorem end_short (s : ByteArray) (h : 0 < s.size) (ha : asciiW s[s.size - 1] = false) (h2 : s.size < 2) : endW s.data.toList = 0 := by
  have e0 : (s.data.toList.take (s.size - 1)).reverse = [] := by rw [show s.size - 1 = 0 by omega]; rfl
  unfold endW; rw [rev_at s h, e0]; simp [endRev, ha]
theorem end_2 (s : ByteArray) (h : 1 < s.size) (ha : asciiW s[s.size - 1] = false) (hc : s[s.size - 2] = 0xC2 ∧ (s[s.size - 1] = 0x85 ∨ s[s.size - 1] = 0xA0)) : endW s.data.toList = 2 := by
  unfold endW; rw [rev_2 s h]; simp only [endRev, ha, if_pos hc]; rfl
theorem end_short2 (s : ByteArray) (h : 1 < s.size) (ha : asciiW s[s.size - 1] = false) (hc : ¬ (s[s.size - 2] = 0xC2 ∧ (s[s.size - 1] = 0x85 ∨ s[s.size - 1] = 0xA0))) (h3 : s.size < 3) : endW s.data.toList = 0 := by
  have e0 : (s.data.toList.take (s.size - 2)).reverse = [] := by rw [show s.size - 2 = 0 by omega]; rfl
  unfold endW; rw [rev_2 s h, e0]; simp only [endRev, ha, if_neg hc]; rfl
theorem end_3 (s : ByteArray) (h : 2 < s.size) (ha : asciiW s[s.size - 1] = false) (hc : ¬ (s[s.size - 2] = 0xC2 ∧ (s[s.size - 1] = 0x85 ∨ s[s.size - 1] = 0xA0))) : endW s.data.toList = if white3 s[s.size - 3] s[s.size - 2] s[s.size - 1] then 3 else 0 := by
  unfold endW; rw [rev_3 s h]; simp only [endRev, ha, if_neg hc]; rfl

set_option maxHeartbeats 1000000 in
theorem we_0 (s : ByteArray) (w : World) (h0 : s.size = 0) : Calls Tryd.prog 12 #[.string s] w fun e w' => e = .returned (.int .i64 0) ∧ ∃ n, w' = w.drewN n := by
  go_enter Tryd.func12, Tryd.ntmps12
  go_wp2
  go_ret; exact ⟨rfl, Q0 _⟩
set_option maxHeartbeats 1000000 in
theorem we_1 (s : ByteArray) (w : World) (h1 : 0 < s.size) (hs : s.size ≤ 1048576) (HA : Hid (asciiI (s[s.size - 1].toNat : Int) = true)) :
    Calls Tryd.prog 12 #[.string s] w fun e w' => e = .returned (.int .i64 1) ∧ ∃ n, w' = w.drewN n := by
  have C9 := hide asciiWhite_int
  go_enter Tryd.func12, Tryd.ntmps12
  go_wp2_with fail
  refine (unhide C9 _ _).mono ?_
  rintro e w1 ⟨rfl, rfl⟩
  rw [unhide HA]
  go_wp2
  go_ret; exact ⟨rfl, Q0 _⟩
set_option maxHeartbeats 1000000 in
theorem we_short (s : ByteArray) (w : World) (h1 : 0 < s.size) (h2 : s.size < 2) (HA : Hid (asciiI (s[s.size - 1].toNat : Int) = false)) :
    Calls Tryd.prog 12 #[.string s] w fun e w' => e = .returned (.int .i64 0) ∧ ∃ n, w' = w.drewN n := by
  have C9 := hide asciiWhite_int
  have n2 : decide ((2 : Int) ≤ s.size) = false := decide_eq_false (by omega)
  have n3 : decide ((3 : Int) ≤ s.size) = false := decide_eq_false (by omega)
  go_enter Tryd.func12, Tryd.ntmps12
  go_wp2_with fail
  refine (unhide C9 _ _).mono ?_
  rintro e w1 ⟨rfl, rfl⟩
  rw [unhide HA]
  go_wp2_with fail
  go_big_quiet (fail)
  go_wp2
  go_ret; exact ⟨rfl, _, rfl⟩
set_option maxHeartbeats 1000000 in
theorem we_2a (s : ByteArray) (w : World) (h1 : 1 < s.size) (hs : s.size ≤ 1048576) (f0 : (s[s.size - 2].toNat : Int) = 194) (f1 : (s[s.size - 1].toNat : Int) = 133) :
    Calls Tryd.prog 12 #[.string s] w fun e w' => e = .returned (.int .i64 2) ∧ ∃ n, w' = w.drewN n := by
  have C9 := hide asciiWhite_int
  go_enter Tryd.func12, Tryd.ntmps12
  go_wp2_with fail
  refine (unhide C9 _ _).mono ?_
  rintro e w1 ⟨rfl, rfl⟩
  rw [show asciiI 133 = false from rfl]
  go_wp2
  go_ret; exact ⟨rfl, Q0 _⟩
set_option maxHeartbeats 1000000 in
theorem we_2b (s : ByteArray) (w : World) (h1 : 1 < s.size) (hs : s.size ≤ 1048576) (f0 : (s[s.size - 2].toNat : Int) = 194) (f1 : (s[s.size - 1].toNat : Int) = 160) :
    Calls Tryd.prog 12 #[.string s] w fun e w' => e = .returned (.int .i64 2) ∧ ∃ n, w' = w.drewN n := by
  have C9 := hide asciiWhite_int
  go_enter Tryd.func12, Tryd.ntmps12
  go_wp2_with fail
  refine (unhide C9 _ _).mono ?_
  rintro e w1 ⟨rfl, rfl⟩
  rw [show asciiI 160 = false from rfl]
  go_wp2
  go_ret; exact ⟨rfl, Q0 _⟩
set_option maxHeartbeats 1000000 in
theorem we_s2x (s : ByteArray) (w : World) (h1 : 1 < s.size) (h3 : s.size < 3) (HA : Hid (asciiI (s[s.size - 1].toNat : Int) = false)) (f0 : ((s[s.size - 2].toNat : Int) == 194) = false) :
    Calls Tryd.prog 12 #[.string s] w fun e w' => e = .returned (.int .i64 0) ∧ ∃ n, w' = w.drewN n := by
  have C9 := hide asciiWhite_int
  have n3 : decide ((3 : Int) ≤ s.size) = false := decide_eq_false (by omega)
  go_enter Tryd.func12, Tryd.ntmps12
  go_wp2_with fail
  refine (unhide C9 _ _).mono ?_
  rintro e w1 ⟨rfl, rfl⟩
  rw [unhide HA]
  go_wp2_with fail
  go_big_quiet (fail)
  go_wp2
  go_ret; exact ⟨rfl, _, rfl⟩
set_option maxHeartbeats 1000000 in
theorem we_3x0 (s : ByteArray) (w : World) (h1 : 2 < s.size) (hs : s.size ≤ 1048576) (HA : Hid (asciiI (s[s.size - 1].toNat : Int) = false)) (f0 : ((s[s.size - 2].toNat : Int) == 194) = false) (HW : Hid (white3I (s[s.size - 3].toNat : Int) (s[s.size - 2].toNat : Int) (s[s.size - 1].toNat : Int) = false)) :
    Calls Tryd.prog 12 #[.string s] w fun e w' => e = .returned (.int .i64 0) ∧ ∃ n, w' = w.drewN n := by
  have C9 := hide asciiWhite_int
  have C10 : ∀ wx, Calls Tryd.prog 10 #[.int .u8 (s[s.size - 3].toNat : Int), .int .u8 (s[s.size - 2].toNat : Int), .int .u8 (s[s.size - 1].toNat : Int)] wx fun e w' => e = .returned (.bool false) ∧ w' = wx := fun wx => by
    have := white3_int (s[s.size - 3].toNat : Int) (s[s.size - 2].toNat : Int) (s[s.size - 1].toNat : Int) wx; rwa [unhide HW] at this
  have n3 : decide ((3 : Int) ≤ s.size) = true := decide_eq_true (by omega)
  have i0 : (3 : Int) ≤ s.size ∧ (s.size : Int) - 3 < s.size := by omega
  have i1 : (2 : Int) ≤ s.size ∧ (s.size : Int) - 2 < s.size := by omega
  have i2 : (1 : Int) ≤ s.size ∧ (s.size : Int) - 1 < s.size := by omega
  go_enter Tryd.func12, Tryd.ntmps12
  go_wp2_with fail
  refine (unhide C9 _ _).mono ?_
  rintro e w1 ⟨rfl, rfl⟩
  rw [unhide HA]
  go_wp2_with fail
  go_big_quiet (first | (go_at_call 10; refine Calls.quiet_of_same (C10 _)))
  go_wp2
  go_ret; exact ⟨rfl, _, rfl⟩
set_option maxHeartbeats 1000000 in
theorem we_3x3 (s : ByteArray) (w : World) (h1 : 2 < s.size) (hs : s.size ≤ 1048576) (HA : Hid (asciiI (s[s.size - 1].toNat : Int) = false)) (f0 : ((s[s.size - 2].toNat : Int) == 194) = false) (HW : Hid (white3I (s[s.size - 3].toNat : Int) (s[s.size - 2].toNat : Int) (s[s.size - 1].toNat : Int) = true)) :
    Calls Tryd.prog 12 #[.string s] w fun e w' => e = .returned (.int .i64 3) ∧ ∃ n, w' = w.drewN n := by
  have C9 := hide asciiWhite_int
  have C10 : ∀ wx, Calls Tryd.prog 10 #[.int .u8 (s[s.size - 3].toNat : Int), .int .u8 (s[s.size - 2].toNat : Int), .int .u8 (s[s.size - 1].toNat : Int)] wx fun e w' => e = .returned (.bool true) ∧ w' = wx := fun wx => by
    have := white3_int (s[s.size - 3].toNat : Int) (s[s.size - 2].toNat : Int) (s[s.size - 1].toNat : Int) wx; rwa [unhide HW] at this
  have n3 : decide ((3 : Int) ≤ s.size) = true := decide_eq_true (by omega)
  have i0 : (3 : Int) ≤ s.size ∧ (s.size : Int) - 3 < s.size := by omega
  have i1 : (2 : Int) ≤ s.size ∧ (s.size : Int) - 2 < s.size := by omega
  have i2 : (1 : Int) ≤ s.size ∧ (s.size : Int) - 1 < s.size := by omega
  go_enter Tryd.func12, Tryd.ntmps12
  go_wp2_with fail
  refine (unhide C9 _ _).mono ?_
  rintro e w1 ⟨rfl, rfl⟩
  rw [unhide HA]
  go_wp2_with fail
  go_big_quiet (first | (go_at_call 10; refine Calls.quiet_of_same (C10 _)))
  go_wp2
  go_ret; exact ⟨rfl, _, rfl⟩
set_option maxHeartbeats 1000000 in
theorem we_s2y (s : ByteArray) (w : World) (h1 : 1 < s.size) (h3 : s.size < 3) (HA : Hid (asciiI (s[s.size - 1].toNat : Int) = false)) (f0 : (s[s.size - 2].toNat : Int) = 194) (f1 : ((s[s.size - 1].toNat : Int) == 133) = false) (f2 : ((s[s.size - 1].toNat : Int) == 160) = false) :
    Calls Tryd.prog 12 #[.string s] w fun e w' => e = .returned (.int .i64 0) ∧ ∃ n, w' = w.drewN n := by
  have C9 := hide asciiWhite_int
  have n3 : decide ((3 : Int) ≤ s.size) = false := decide_eq_false (by omega)
  go_enter Tryd.func12, Tryd.ntmps12
  go_wp2_with fail
  refine (unhide C9 _ _).mono ?_
  rintro e w1 ⟨rfl, rfl⟩
  rw [unhide HA]
  go_wp2_with fail
  go_big_quiet (fail)
  go_wp2
  go_ret; exact ⟨rfl, _, rfl⟩
set_option maxHeartbeats 1000000 in
theorem we_3y0 (s : ByteArray) (w : World) (h1 : 2 < s.size) (hs : s.size ≤ 1048576) (HA : Hid (asciiI (s[s.size - 1].toNat : Int) = false)) (f0 : (s[s.size - 2].toNat : Int) = 194) (f1 : ((s[s.size - 1].toNat : Int) == 133) = false) (f2 : ((s[s.size - 1].toNat : Int) == 160) = false) (HW : Hid (white3I (s[s.size - 3].toNat : Int) 194 (s[s.size - 1].toNat : Int) = false)) :
    Calls Tryd.prog 12 #[.string s] w fun e w' => e = .returned (.int .i64 0) ∧ ∃ n, w' = w.drewN n := by
  have C9 := hide asciiWhite_int
  have C10 : ∀ wx, Calls Tryd.prog 10 #[.int .u8 (s[s.size - 3].toNat : Int), .int .u8 194, .int .u8 (s[s.size - 1].toNat : Int)] wx fun e w' => e = .returned (.bool false) ∧ w' = wx := fun wx => by
    have := white3_int (s[s.size - 3].toNat : Int) 194 (s[s.size - 1].toNat : Int) wx; rwa [unhide HW] at this
  have n3 : decide ((3 : Int) ≤ s.size) = true := decide_eq_true (by omega)
  have i0 : (3 : Int) ≤ s.size ∧ (s.size : Int) - 3 < s.size := by omega
  have i1 : (2 : Int) ≤ s.size ∧ (s.size : Int) - 2 < s.size := by omega
  have i2 : (1 : Int) ≤ s.size ∧ (s.size : Int) - 1 < s.size := by omega
  go_enter Tryd.func12, Tryd.ntmps12
  go_wp2_with fail
  refine (unhide C9 _ _).mono ?_
  rintro e w1 ⟨rfl, rfl⟩
  rw [unhide HA]
  go_wp2_with fail
  go_big_quiet (first | (go_at_call 10; refine Calls.quiet_of_same (C10 _)))
  go_wp2
  go_ret; exact ⟨rfl, _, rfl⟩
theorem white3_194b (a c : UInt8) : white3 a 0xC2 c = false := by
  unfold white3; simp
theorem whiteAtEnd_any (s : ByteArray) (w : World) (hs : s.size ≤ 1048576) :
    Calls Tryd.prog 12 #[.string s] w fun e w' => e = .returned (.int .i64 (endW s.data.toList : Nat)) ∧ ∃ n, w' = w.drewN n := by
  by_cases h0 : s.size = 0
  · rw [end_nil s h0]; exact we_0 s w h0
  · have h1 : 0 < s.size := by omega
    cases ha : asciiW s[s.size - 1] with
    | true => rw [end_1 s h1 ha]; exact we_1 s w h1 hs (asciiH ha)
    | false =>
      by_cases h2 : s.size < 2
      · rw [end_short s h1 ha h2]; exact we_short s w h1 h2 (asciiH ha)
      · have g2 : 1 < s.size := by omega
        by_cases hc : s[s.size - 2] = 0xC2 ∧ (s[s.size - 1] = 0x85 ∨ s[s.size - 1] = 0xA0)
        · rw [end_2 s g2 ha hc]
          have f0 : (s[s.size - 2].toNat : Int) = 194 := eqI (n := 194) hc.1 (by decide)
          rcases hc.2 with e | e
          · exact we_2a s w g2 hs f0 (eqI (n := 133) e (by decide))
          · exact we_2b s w g2 hs f0 (eqI (n := 160) e (by decide))
        · by_cases h3 : s.size < 3
          · rw [end_short2 s g2 ha hc h3]
            by_cases hx : s[s.size - 2] = 0xC2
            · exact we_s2y s w g2 h3 (asciiH ha) (eqI (n := 194) hx (by decide)) (beqF (n := 133) (by decide) fun e => hc ⟨hx, .inl e⟩) (beqF (n := 160) (by decide) fun e => hc ⟨hx, .inr e⟩)
            · exact we_s2x s w g2 h3 (asciiH ha) (beqF (n := 194) (by decide) hx)
          · have g3 : 2 < s.size := by omega
            rw [end_3 s g3 ha hc]
            by_cases hx : s[s.size - 2] = 0xC2
            · have hw : white3 s[s.size - 3] s[s.size - 2] s[s.size - 1] = false := by rw [hx]; exact white3_194b _ _
              have f0 : (s[s.size - 2].toNat : Int) = 194 := eqI (n := 194) hx (by decide)
              rw [hw]
              exact we_3y0 s w g3 hs (asciiH ha) f0 (beqF (n := 133) (by decide) fun e => hc ⟨hx, .inl e⟩) (beqF (n := 160) (by decide) fun e => hc ⟨hx, .inr e⟩) (hide (by rw [← f0, white3I_eq]; exact hw))
            · cases hw : white3 s[s.size - 3] s[s.size - 2] s[s.size - 1] with
              | false => exact we_3x0 s w g3 hs (asciiH ha) (beqF (n := 194) (by decide) hx) (hide (by rw [white3I_eq]; exact hw))
              | true => exact we_3x3 s w g3 hs (asciiH ha) (beqF (n := 194) (by decide) hx) (hide (by rw [white3I_eq]; exact hw))
end Go.Proofs.Qxb6603845aDoor
