/-
  THE WALK of whiteAtStart, seat b6603845aD.
-/
import Derived.Test.Qxb6603845aDoorHelpers
namespace Go.Proofs.Qxb6603845aDoor
open Go.RowKit Go.Lib Plain

theorem Q0 (w : World) : ∃ n, w = w.drewN n := ⟨0, rfl⟩
theorem eqI {b : UInt8} {n : Nat} (h : b = n.toUInt8) (hn : n < 256) : (b.toNat : Int) = n := by rw [h]; simp; omega

/-! ### whiteAtStart -/
theorem start_nil (s : ByteArray) (h : s.size = 0) : startW s.data.toList = 0 := by
  rw [List.eq_nil_of_length_eq_zero (l := s.data.toList) (by simpa using h)]; rfl
theorem list1 (s : ByteArray) (h : 0 < s.size) : s.data.toList = s[0] :: s.data.toList.drop 1 := by
  have := drop_at s 0 h; rwa [List.drop_zero] at this
theorem drop_nil (s : ByteArray) (k : Nat) (h : s.size ≤ k) : s.data.toList.drop k = [] := List.drop_eq_nil_of_le (by simpa using h)
theorem start_1 (s : ByteArray) (h : 0 < s.size) (ha : asciiW s[0] = true) : startW s.data.toList = 1 := by
  rw [list1 s h]; simp [startW, ha]
theorem start_short (s : ByteArray) (h : 0 < s.size) (ha : asciiW s[0] = false) (h2 : s.size < 2) : startW s.data.toList = 0 := by
  rw [list1 s h, drop_nil s 1 (by omega)]; simp [startW, ha]
theorem start_2 (s : ByteArray) (h : 1 < s.size) (ha : asciiW s[0] = false) (hc : s[0] = 0xC2 ∧ (s[1] = 0x85 ∨ s[1] = 0xA0)) : startW s.data.toList = 2 := by
  rw [list1 s (by omega), drop_at s 1 h]; simp only [startW, ha, if_pos hc]; rfl
theorem start_short2 (s : ByteArray) (h : 1 < s.size) (ha : asciiW s[0] = false) (hc : ¬ (s[0] = 0xC2 ∧ (s[1] = 0x85 ∨ s[1] = 0xA0))) (h3 : s.size < 3) : startW s.data.toList = 0 := by
  rw [list1 s (by omega), drop_at s 1 h, drop_nil s 2 (by omega)]; simp only [startW, ha, if_neg hc]; rfl
theorem start_3 (s : ByteArray) (h : 2 < s.size) (ha : asciiW s[0] = false) (hc : ¬ (s[0] = 0xC2 ∧ (s[1] = 0x85 ∨ s[1] = 0xA0))) : startW s.data.toList = if white3 s[0] s[1] s[2] then 3 else 0 := by
  rw [list1 s (by omega), drop_at s 1 (by omega), drop_at s 2 h]; simp only [startW, ha, if_neg hc]; rfl

theorem asciiH {c : UInt8} {b : Bool} (h : asciiW c = b) : Hid (asciiI (c.toNat : Int) = b) := by rw [← asciiI_eq] at h; exact h
theorem beqF {b : UInt8} {n : Nat} (hn : n < 256) (h : b ≠ n.toUInt8) : ((b.toNat : Int) == (n : Int)) = false := by rw [beq_eq_false_iff_ne]; exact fun e => h (byteI hn e)
set_option maxHeartbeats 1000000 in
theorem ws_0 (s : ByteArray) (w : World) (h0 : s.size = 0) : Calls Tryd.prog 6 #[.string s] w fun e w' => e = .returned (.int .i64 0) ∧ ∃ n, w' = w.drewN n := by
  go_enter Tryd.func6, Tryd.ntmps6
  go_wp2
  go_ret; exact ⟨rfl, Q0 _⟩
set_option maxHeartbeats 1000000 in
theorem ws_1 (s : ByteArray) (w : World) (h1 : 0 < s.size) (hs : s.size ≤ 1048576) (HA : Hid (asciiI (s[0].toNat : Int) = true)) :
    Calls Tryd.prog 6 #[.string s] w fun e w' => e = .returned (.int .i64 1) ∧ ∃ n, w' = w.drewN n := by
  have C9 := hide asciiWhite_int
  go_enter Tryd.func6, Tryd.ntmps6
  go_wp2_with fail
  refine (unhide C9 _ _).mono ?_
  rintro e w1 ⟨rfl, rfl⟩
  rw [unhide HA]
  go_wp2
  go_ret; exact ⟨rfl, Q0 _⟩
set_option maxHeartbeats 1000000 in
theorem ws_short (s : ByteArray) (w : World) (h1 : 0 < s.size) (h2 : s.size < 2) (HA : Hid (asciiI (s[0].toNat : Int) = false)) :
    Calls Tryd.prog 6 #[.string s] w fun e w' => e = .returned (.int .i64 0) ∧ ∃ n, w' = w.drewN n := by
  have C9 := hide asciiWhite_int
  have n2 : decide ((2 : Int) ≤ s.size) = false := decide_eq_false (by omega)
  have n3 : decide ((3 : Int) ≤ s.size) = false := decide_eq_false (by omega)
  go_enter Tryd.func6, Tryd.ntmps6
  go_wp2_with fail
  refine (unhide C9 _ _).mono ?_
  rintro e w1 ⟨rfl, rfl⟩
  rw [unhide HA]
  go_wp2_with fail
  go_big_quiet (fail)
  go_wp2
  go_ret; exact ⟨rfl, _, rfl⟩
set_option maxHeartbeats 1000000 in
theorem ws_2a (s : ByteArray) (w : World) (h1 : 1 < s.size) (hs : s.size ≤ 1048576) (f0 : (s[0].toNat : Int) = 194) (f1 : (s[1].toNat : Int) = 133) :
    Calls Tryd.prog 6 #[.string s] w fun e w' => e = .returned (.int .i64 2) ∧ ∃ n, w' = w.drewN n := by
  have C9 := hide asciiWhite_int
  go_enter Tryd.func6, Tryd.ntmps6
  go_wp2_with fail
  refine (unhide C9 _ _).mono ?_
  rintro e w1 ⟨rfl, rfl⟩
  rw [show asciiI 194 = false from rfl]
  go_wp2
  go_ret; exact ⟨rfl, Q0 _⟩
set_option maxHeartbeats 1000000 in
theorem ws_2b (s : ByteArray) (w : World) (h1 : 1 < s.size) (hs : s.size ≤ 1048576) (f0 : (s[0].toNat : Int) = 194) (f1 : (s[1].toNat : Int) = 160) :
    Calls Tryd.prog 6 #[.string s] w fun e w' => e = .returned (.int .i64 2) ∧ ∃ n, w' = w.drewN n := by
  have C9 := hide asciiWhite_int
  go_enter Tryd.func6, Tryd.ntmps6
  go_wp2_with fail
  refine (unhide C9 _ _).mono ?_
  rintro e w1 ⟨rfl, rfl⟩
  rw [show asciiI 194 = false from rfl]
  go_wp2
  go_ret; exact ⟨rfl, Q0 _⟩
set_option maxHeartbeats 1000000 in
theorem ws_s2x (s : ByteArray) (w : World) (h1 : 1 < s.size) (h3 : s.size < 3) (HA : Hid (asciiI (s[0].toNat : Int) = false)) (f0 : ((s[0].toNat : Int) == 194) = false) :
    Calls Tryd.prog 6 #[.string s] w fun e w' => e = .returned (.int .i64 0) ∧ ∃ n, w' = w.drewN n := by
  have C9 := hide asciiWhite_int
  have n3 : decide ((3 : Int) ≤ s.size) = false := decide_eq_false (by omega)
  go_enter Tryd.func6, Tryd.ntmps6
  go_wp2_with fail
  refine (unhide C9 _ _).mono ?_
  rintro e w1 ⟨rfl, rfl⟩
  rw [unhide HA]
  go_wp2_with fail
  go_big_quiet (fail)
  go_wp2
  go_ret; exact ⟨rfl, _, rfl⟩
set_option maxHeartbeats 1000000 in
theorem ws_3x0 (s : ByteArray) (w : World) (h1 : 2 < s.size) (hs : s.size ≤ 1048576) (HA : Hid (asciiI (s[0].toNat : Int) = false)) (f0 : ((s[0].toNat : Int) == 194) = false) (HW : Hid (white3I (s[0].toNat : Int) s[1].toNat s[2].toNat = false)) :
    Calls Tryd.prog 6 #[.string s] w fun e w' => e = .returned (.int .i64 0) ∧ ∃ n, w' = w.drewN n := by
  have C9 := hide asciiWhite_int
  have C10 : ∀ wx, Calls Tryd.prog 10 #[.int .u8 (s[0].toNat : Int), .int .u8 (s[1].toNat : Int), .int .u8 (s[2].toNat : Int)] wx fun e w' => e = .returned (.bool false) ∧ w' = wx := fun wx => by
    have := white3_int (s[0].toNat : Int) s[1].toNat s[2].toNat wx; rwa [unhide HW] at this
  have n3 : decide ((3 : Int) ≤ s.size) = true := decide_eq_true (by omega)
  have i0 : (0 : Int) < s.size := by omega
  have i1 : (1 : Int) < s.size := by omega
  have i2 : (2 : Int) < s.size := by omega
  go_enter Tryd.func6, Tryd.ntmps6
  go_wp2_with fail
  refine (unhide C9 _ _).mono ?_
  rintro e w1 ⟨rfl, rfl⟩
  rw [unhide HA]
  go_wp2_with fail
  go_big_quiet (first | (go_at_call 10; refine Calls.quiet_of_same (C10 _)))
  go_wp2
  go_ret; exact ⟨rfl, _, rfl⟩
set_option maxHeartbeats 1000000 in
theorem ws_3x3 (s : ByteArray) (w : World) (h1 : 2 < s.size) (hs : s.size ≤ 1048576) (HA : Hid (asciiI (s[0].toNat : Int) = false)) (f0 : ((s[0].toNat : Int) == 194) = false) (HW : Hid (white3I (s[0].toNat : Int) s[1].toNat s[2].toNat = true)) :
    Calls Tryd.prog 6 #[.string s] w fun e w' => e = .returned (.int .i64 3) ∧ ∃ n, w' = w.drewN n := by
  have C9 := hide asciiWhite_int
  have C10 : ∀ wx, Calls Tryd.prog 10 #[.int .u8 (s[0].toNat : Int), .int .u8 (s[1].toNat : Int), .int .u8 (s[2].toNat : Int)] wx fun e w' => e = .returned (.bool true) ∧ w' = wx := fun wx => by
    have := white3_int (s[0].toNat : Int) s[1].toNat s[2].toNat wx; rwa [unhide HW] at this
  have n3 : decide ((3 : Int) ≤ s.size) = true := decide_eq_true (by omega)
  have i0 : (0 : Int) < s.size := by omega
  have i1 : (1 : Int) < s.size := by omega
  have i2 : (2 : Int) < s.size := by omega
  go_enter Tryd.func6, Tryd.ntmps6
  go_wp2_with fail
  refine (unhide C9 _ _).mono ?_
  rintro e w1 ⟨rfl, rfl⟩
  rw [unhide HA]
  go_wp2_with fail
  go_big_quiet (first | (go_at_call 10; refine Calls.quiet_of_same (C10 _)))
  go_wp2
  go_ret; exact ⟨rfl, _, rfl⟩
set_option maxHeartbeats 1000000 in
theorem ws_s2y (s : ByteArray) (w : World) (h1 : 1 < s.size) (h3 : s.size < 3) (f0 : (s[0].toNat : Int) = 194) (f1 : ((s[1].toNat : Int) == 133) = false) (f2 : ((s[1].toNat : Int) == 160) = false) :
    Calls Tryd.prog 6 #[.string s] w fun e w' => e = .returned (.int .i64 0) ∧ ∃ n, w' = w.drewN n := by
  have C9 := hide asciiWhite_int
  have n3 : decide ((3 : Int) ≤ s.size) = false := decide_eq_false (by omega)
  go_enter Tryd.func6, Tryd.ntmps6
  go_wp2_with fail
  refine (unhide C9 _ _).mono ?_
  rintro e w1 ⟨rfl, rfl⟩
  rw [show asciiI 194 = false from rfl]
  go_wp2_with fail
  go_big_quiet (fail)
  go_wp2
  go_ret; exact ⟨rfl, _, rfl⟩
set_option maxHeartbeats 1000000 in
theorem ws_3y0 (s : ByteArray) (w : World) (h1 : 2 < s.size) (hs : s.size ≤ 1048576) (f0 : (s[0].toNat : Int) = 194) (f1 : ((s[1].toNat : Int) == 133) = false) (f2 : ((s[1].toNat : Int) == 160) = false) (HW : Hid (white3I 194 s[1].toNat s[2].toNat = false)) :
    Calls Tryd.prog 6 #[.string s] w fun e w' => e = .returned (.int .i64 0) ∧ ∃ n, w' = w.drewN n := by
  have C9 := hide asciiWhite_int
  have C10 : ∀ wx, Calls Tryd.prog 10 #[.int .u8 194, .int .u8 (s[1].toNat : Int), .int .u8 (s[2].toNat : Int)] wx fun e w' => e = .returned (.bool false) ∧ w' = wx := fun wx => by
    have := white3_int 194 s[1].toNat s[2].toNat wx; rwa [unhide HW] at this
  have n3 : decide ((3 : Int) ≤ s.size) = true := decide_eq_true (by omega)
  have i0 : (0 : Int) < s.size := by omega
  have i1 : (1 : Int) < s.size := by omega
  have i2 : (2 : Int) < s.size := by omega
  go_enter Tryd.func6, Tryd.ntmps6
  go_wp2_with fail
  refine (unhide C9 _ _).mono ?_
  rintro e w1 ⟨rfl, rfl⟩
  rw [show asciiI 194 = false from rfl]
  go_wp2_with fail
  go_big_quiet (first | (go_at_call 10; refine Calls.quiet_of_same (C10 _)))
  go_wp2
  go_ret; exact ⟨rfl, _, rfl⟩
theorem white3_194 (b c : UInt8) : white3 0xC2 b c = false := by simp [white3]
theorem whiteAtStart_any (s : ByteArray) (w : World) (hs : s.size ≤ 1048576) :
    Calls Tryd.prog 6 #[.string s] w fun e w' => e = .returned (.int .i64 (startW s.data.toList : Nat)) ∧ ∃ n, w' = w.drewN n := by
  by_cases h0 : s.size = 0
  · rw [start_nil s h0]; exact ws_0 s w h0
  · have h1 : 0 < s.size := by omega
    cases ha : asciiW s[0] with
    | true => rw [start_1 s h1 ha]; exact ws_1 s w h1 hs (asciiH ha)
    | false =>
      by_cases h2 : s.size < 2
      · rw [start_short s h1 ha h2]; exact ws_short s w h1 h2 (asciiH ha)
      · have g2 : 1 < s.size := by omega
        by_cases hc : s[0] = 0xC2 ∧ (s[1] = 0x85 ∨ s[1] = 0xA0)
        · rw [start_2 s g2 ha hc]
          have f0 : (s[0].toNat : Int) = 194 := eqI (n := 194) hc.1 (by decide)
          rcases hc.2 with e | e
          · exact ws_2a s w g2 hs f0 (eqI (n := 133) e (by decide))
          · exact ws_2b s w g2 hs f0 (eqI (n := 160) e (by decide))
        · by_cases h3 : s.size < 3
          · rw [start_short2 s g2 ha hc h3]
            by_cases hx : s[0] = 0xC2
            · exact ws_s2y s w g2 h3 (eqI (n := 194) hx (by decide)) (beqF (n := 133) (by decide) fun e => hc ⟨hx, .inl e⟩) (beqF (n := 160) (by decide) fun e => hc ⟨hx, .inr e⟩)
            · exact ws_s2x s w g2 h3 (asciiH ha) (beqF (n := 194) (by decide) hx)
          · have g3 : 2 < s.size := by omega
            rw [start_3 s g3 ha hc]
            by_cases hx : s[0] = 0xC2
            · have hw : white3 s[0] s[1] s[2] = false := by rw [hx]; exact white3_194 _ _
              have f0 : (s[0].toNat : Int) = 194 := eqI (n := 194) hx (by decide)
              rw [hw]
              exact ws_3y0 s w g3 hs f0 (beqF (n := 133) (by decide) fun e => hc ⟨hx, .inl e⟩) (beqF (n := 160) (by decide) fun e => hc ⟨hx, .inr e⟩) (hide (by rw [← f0, white3I_eq]; exact hw))
            · cases hw : white3 s[0] s[1] s[2] with
              | false => exact ws_3x0 s w g3 hs (asciiH ha) (beqF (n := 194) (by decide) hx) (hide (by rw [white3I_eq]; exact hw))
              | true => exact ws_3x3 s w g3 hs (asciiH ha) (beqF (n := 194) (by decide) hx) (hide (by rw [white3I_eq]; exact hw))
end Go.Proofs.Qxb6603845aDoor
