/-
  THE WALK of trimWhiteRight, seat b6603845aD.
-/
import Derived.Test.Qxb6603845aDoorEnd
namespace Go.Proofs.Qxb6603845aDoor
open Go.RowKit Go.Lib Plain

theorem ba_ext (a b : ByteArray) (h : a.data.toList = b.data.toList) : a = b := by
  obtain ⟨⟨x⟩⟩ := a; obtain ⟨⟨y⟩⟩ := b
  simpa using h
theorem extract_take (s : ByteArray) (k : Nat) : (s.extract 0 k).data.toList = s.data.toList.take k := by
  rw [extract_data]; simp
theorem str_eq {a b : ByteArray} (h : a.data.toList = b.data.toList) : Ending.returned (Value.string a) = .returned (.string b) := by
  rw [ba_ext a b h]
theorem trimW_stop (l : List UInt8) (h : endW l = 0) : trimW l = l := by
  unfold trimW
  cases hl : l.length with
  | zero => rfl
  | succ n => unfold trimR; rw [if_pos h]
theorem trimW_step (l : List UInt8) (h : endW l ≠ 0) : trimW l = trimW (l.take (l.length - endW l)) := by
  unfold trimW
  have hle := endW_le l
  cases hl : l.length with
  | zero => omega
  | succ n =>
    conv => lhs; unfold trimR
    rw [if_neg h, trimR_fuel n _ (by rw [List.length_take]; omega), hl]
theorem trimW_nil : trimW [] = [] := rfl

theorem Qn {w x : World} (h : ∃ n, x = w.drewN n) (k : Nat) : ∃ n, x.drewN k = w.drewN n := by
  obtain ⟨n, rfl⟩ := h; exact ⟨_, World.drewN_drewN ..⟩
theorem Qt {w x y : World} (h : ∃ n, x = w.drewN n) (g : ∃ n, y = x.drewN n) : ∃ n, y = w.drewN n := by
  obtain ⟨n, rfl⟩ := g; exact Qn h n
def strLen : Value → Nat
  | .string v => v.size
  | _ => 0

set_option maxHeartbeats 1000000 in
theorem trimWhiteRight_any (s : ByteArray) (w : World) (hs : s.size ≤ 1048576) :
    Calls Tryd.prog 8 #[.string s] w fun e w' => e = .returned (.string ⟨(trimW s.data.toList).toArray⟩) ∧ ∃ n, w' = w.drewN n := by
  have C12 := hide whiteAtEnd_any
  go_enter Tryd.func8, Tryd.ntmps8
  go_wp2
  go_loopw [0] (fun vv w' => ∃ v : ByteArray, vv = .string v ∧ v.size ≤ s.size ∧ Hid (trimW v.data.toList = trimW s.data.toList) ∧ Hid (∃ n, w' = w.drewN n)) (fun vv _ => strLen vv)
  case atStart => exact ⟨s, rfl, Nat.le_refl _, hide rfl, Q0 _⟩
  case round =>
    obtain ⟨v, rfl, hv, HT, HW⟩ := hrel
    by_cases h0 : 0 < v.size
    · obtain ⟨k, hk⟩ : ∃ k, endW v.data.toList = k := ⟨_, rfl⟩
      have hkl : k ≤ v.size := by
        have := endW_le v.data.toList
        rw [hk] at this; simpa using this
      have HK := hide hk
      clear hk
      go_wp2_with fail
      refine (unhide C12 v _ (by omega)).mono ?_
      rintro e w1 ⟨rfl, hw1⟩
      rw [unhide HK]
      have HW1 := hide (Qt (unhide HW) hw1)
      clear hw1
      by_cases hk0 : k = 0
      · subst hk0
        have HF : Hid (trimW s.data.toList = v.data.toList) := hide (by rw [← unhide HT]; exact trimW_stop _ (unhide HK))
        go_wp2
        go_ret; exact ⟨str_eq (by rw [unhide HF]), unhide HW1⟩
      · have kb : ((k : Int) == 0) = false := by rw [beq_eq_false_iff_ne]; omega
        have HF : Hid (trimW (v.extract 0 (v.size - k)).data.toList = trimW s.data.toList) := hide (by
          rw [← unhide HT, extract_take, trimW_step v.data.toList (by rw [unhide HK]; exact hk0), unhide HK]; rfl)
        go_wp2
        go_roundw
        case rel => exact ⟨_, rfl, by simp; omega, HF, HW1⟩
        case measure => simp [strLen]; omega
    · have HF : Hid (trimW s.data.toList = v.data.toList) := hide (by
        rw [← unhide HT, List.eq_nil_of_length_eq_zero (l := v.data.toList) (by rw [show v.data.toList.length = v.size by simp]; omega)]; rfl)
      go_wp2
      go_ret; exact ⟨str_eq (by rw [unhide HF]), unhide HW⟩
end Go.Proofs.Qxb6603845aDoor
