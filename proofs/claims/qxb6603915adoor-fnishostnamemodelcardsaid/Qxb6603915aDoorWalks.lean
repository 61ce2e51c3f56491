/-
  THE WALKS of seat b6603915aD: what each Go function on the road computes.
-/
import Derived.Test.Qxb6603915aDoorChecked
import Derived.Test.Qxb6603915aDoorShelf
import Derived.Test.Qxb6603915aDoorPlain
import Derived.WalkKit
import Derived.WalkLawsBesides
import Derived.WalkSpells
namespace Go.Proofs.Qxb6603915aDoor
open Go.RowKit Go.Lib Plain

theorem hide {p : Prop} (h : p) : Hid p := h
theorem unhide {p : Prop} (h : Hid p) : p := h
theorem drop_at (s : ByteArray) (k : Nat) (h : k < s.size) : s.data.toList.drop k = s[k] :: s.data.toList.drop (k + 1) := by
  rw [List.drop_eq_getElem_cons (by simpa using h)]; rfl
theorem byteI {b : UInt8} {n : Nat} (hn : n < 256) (h : (b.toNat : Int) = n) : b = n.toUInt8 := by
  apply UInt8.toNat_inj.1
  have : b.toNat = n := by omega
  rw [this]; simp; omega

set_option maxHeartbeats 400000 in
theorem bytes4 (s : ByteArray) (w : World) (hs : s.size ≤ 1048576) : Calls Tryd.prog 4 #[.string s] w fun e w' => e = .returned (.bool true) ∧ w' = w := by
  go_enter Tryd.func4, Tryd.ntmps4
  go_wp2
  go_ret; exact ⟨rfl, rfl⟩
set_option maxHeartbeats 400000 in
theorem bytes4_no (s : ByteArray) (w : World) (hs : 1048576 < s.size) (hx : s.size ≤ maxLen) : Calls Tryd.prog 4 #[.string s] w fun e w' => e = .returned (.bool false) ∧ w' = w := by
  unfold maxLen at hx
  go_enter Tryd.func4, Tryd.ntmps4
  go_wp2
  go_ret; exact ⟨rfl, rfl⟩

theorem bool_ret {a b : Bool} (h : a = b) : Ending.returned (Value.bool a) = .returned (.bool b) := by rw [h]

set_option maxHeartbeats 1000000 in
theorem hostByte_any (c : Int) (w : World) : Calls Tryd.prog 8 #[.int .u8 c] w fun e w' => e = .returned (.bool (hostB c)) ∧ w' = w := by
  go_enter Tryd.func8, Tryd.ntmps8
  go_wp2
  all_goals (go_ret; refine ⟨bool_ret ?_, rfl⟩; unfold hostB; rw [Bool.eq_iff_iff]; simp only [Bool.or_eq_true, Bool.and_eq_true, decide_eq_true_eq, beq_iff_eq]; first | omega | (rw [true_iff]; omega))

theorem auto_dot_bad (r : List UInt8) (run : Nat) (p : UInt8) (h : run = 0 ∨ 63 < run ∨ p = 45) : auto (46 :: r) run p = false := by unfold auto; rw [if_pos rfl, if_pos h]
theorem auto_dot (r : List UInt8) (run : Nat) (p : UInt8) (h : ¬ (run = 0 ∨ 63 < run ∨ p = 45)) : auto (46 :: r) run p = auto r 0 46 := by
  conv => lhs; unfold auto
  rw [if_pos rfl, if_neg h]
theorem auto_not (c : UInt8) (r : List UInt8) (run : Nat) (p : UInt8) (hc : c ≠ 46) (h : hostU c = false) : auto (c :: r) run p = false := by unfold auto; rw [if_neg hc, if_pos h]
theorem auto_hy (r : List UInt8) (p : UInt8) : auto (45 :: r) 0 p = false := by unfold auto; simp
theorem auto_go (c : UInt8) (r : List UInt8) (run : Nat) (p : UInt8) (hc : c ≠ 46) (h : hostU c = true) (h0 : ¬ (run = 0 ∧ c = 45)) : auto (c :: r) run p = auto r (run + 1) c := by
  conv => lhs; unfold auto
  rw [if_neg hc, if_neg (by rw [h]; simp), if_neg h0]

theorem model_of (s : ByteArray) (h1 : 1 ≤ s.size) (h2 : s.size ≤ 253) : modelL s.data.toList = auto s.data.toList 0 46 := by
  unfold modelL
  have e : s.data.toList.length = s.size := by simp
  have n : s.data.toList.isEmpty = false := by rw [List.isEmpty_eq_false_iff]; intro e0; rw [e0] at e; simp at e; omega
  rw [n, e, decide_eq_true h2]; rfl
theorem model_out (s : ByteArray) (h : ¬ (1 ≤ s.size ∧ s.size ≤ 253)) : modelL s.data.toList = false := by
  unfold modelL
  have e : s.data.toList.length = s.size := by simp
  by_cases h0 : s.size = 0
  · have : s.data.toList = [] := List.eq_nil_of_length_eq_zero (by rw [e]; exact h0)
    rw [this]; rfl
  · have : decide (s.data.toList.length ≤ 253) = false := by rw [e]; simp; omega
    rw [this]; simp

set_option maxHeartbeats 2000000 in
theorem model_any (s : ByteArray) (w : World) (hs : s.size ≤ 1048576) :
    Calls Tryd.prog 6 #[.string s] w fun e w' => e = .returned (.bool (modelL s.data.toList)) ∧ w' = w := by
  by_cases hg : 1 ≤ s.size ∧ s.size ≤ 253
  · obtain ⟨g1, g2⟩ := hg
    rw [model_of s g1 g2]
    have C8 := hide hostByte_any
    go_enter Tryd.func6, Tryd.ntmps6
    go_wp2
    go_loop [3, 4, 5] (fun rr pp ii => ∃ (k run : Nat) (p : UInt8), k ≤ s.size ∧ run ≤ k ∧ rr = .int .i64 run ∧ pp = .int .u8 (p.toNat : Int) ∧ ii = .int .i64 k ∧
      Hid (auto (s.data.toList.drop k) run p = auto s.data.toList 0 46)) (fun _ _ i => s.size - (RowKit.intOf i).toNat)
    case atStart => exact ⟨0, 0, 46, Nat.zero_le _, Nat.le_refl _, rfl, rfl, rfl, hide rfl⟩
    case round =>
      obtain ⟨k, run, p, hk, hr, rfl, rfl, rfl, HA⟩ := hrel
      by_cases hlt : k < s.size
      · have HD := hide (drop_at s k hlt)
        by_cases hc : (s[k].toNat : Int) = 46
        · have hcu : s[k] = 46 := byteI (n := 46) (by decide) hc
          by_cases hb : run = 0 ∨ 63 < run ∨ p = 45
          · have HF : Hid (auto s.data.toList 0 46 = false) := hide (by rw [← unhide HA, unhide HD, hcu]; exact auto_dot_bad _ _ _ hb)
            clear HA HD
            rcases hb with h | h | h
            · subst h
              go_wp2
              all_goals (go_ret; rw [unhide HF]; exact ⟨rfl, rfl⟩)
            · have n0 : ((run : Int) == 0) = false := by rw [beq_eq_false_iff_ne]; omega
              go_wp2
              all_goals (go_ret; rw [unhide HF]; exact ⟨rfl, rfl⟩)
            · subst h
              go_wp2
              all_goals (go_ret; rw [unhide HF]; exact ⟨rfl, rfl⟩)
          · have HF : Hid (auto (s.data.toList.drop (k + 1)) 0 46 = auto s.data.toList 0 46) := hide (by rw [← unhide HA, unhide HD, hcu]; exact (auto_dot _ _ _ hb).symm)
            have n0 : ((run : Int) == 0) = false := by rw [beq_eq_false_iff_ne]; omega
            have n1 : ((p.toNat : Int) == 45) = false := by rw [beq_eq_false_iff_ne]; intro e; exact hb (.inr (.inr (byteI (n := 45) (by decide) e)))
            have n2 : run ≤ 63 := by omega
            clear HA HD hb hcu
            go_wp2
            go_round
            case rel => exact ⟨k + 1, 0, 46, by omega, by omega, rfl, rfl, by go_num, HF⟩
            case measure => simp [RowKit.intOf]; omega
        · have hcu : s[k] ≠ 46 := fun e => hc (by rw [e]; rfl)
          cases hh : hostU s[k] with
          | false =>
            have HF : Hid (auto s.data.toList 0 46 = false) := hide (by rw [← unhide HA, unhide HD]; exact auto_not _ _ _ _ hcu hh)
            have HH : Hid (hostB (s[k].toNat : Int) = false) := hide hh
            clear HA HD hh hcu
            go_wp2_with fail
            refine (unhide C8 _ _).mono ?_
            rintro e w1 ⟨rfl, rfl⟩
            rw [unhide HH]
            go_wp2
            go_ret; rw [unhide HF]; exact ⟨rfl, rfl⟩
          | true =>
            have HH : Hid (hostB (s[k].toNat : Int) = true) := hide hh
            by_cases h0 : run = 0 ∧ s[k] = 45
            · obtain ⟨rfl, e45⟩ := h0
              have HF : Hid (auto s.data.toList 0 46 = false) := hide (by rw [← unhide HA, unhide HD, e45]; exact auto_hy _ _)
              have n45 : (s[k].toNat : Int) = 45 := by rw [e45]; rfl
              clear HA HD hh hcu e45 HH
              go_wp2_with fail
              refine (unhide C8 _ _).mono ?_
              rintro e w1 ⟨rfl, rfl⟩
              rw [show hostB 45 = true from rfl]
              go_wp2
              go_ret; rw [unhide HF]; exact ⟨rfl, rfl⟩
            · have HF : Hid (auto (s.data.toList.drop (k + 1)) (run + 1) s[k] = auto s.data.toList 0 46) := hide (by rw [← unhide HA, unhide HD]; exact (auto_go _ _ _ _ hcu hh h0).symm)
              have H0 : Hid (¬ (run = 0 ∧ (s[k].toNat : Int) = 45)) := hide (fun ⟨a, b⟩ => h0 ⟨a, byteI (n := 45) (by decide) b⟩)
              clear HA HD hh hcu h0
              by_cases hr0 : run = 0
              · have n45 : ¬ (s[k].toNat : Int) = 45 := fun e => unhide H0 ⟨hr0, e⟩
                subst hr0
                go_wp2_with fail
                refine (unhide C8 _ _).mono ?_
                rintro e w1 ⟨rfl, rfl⟩
                rw [unhide HH]
                go_wp2
                go_round
                case rel => exact ⟨k + 1, 1, s[k], by omega, by omega, by go_num, rfl, by go_num, HF⟩
                case measure => simp [RowKit.intOf]; omega
              · have n0 : ((run : Int) == 0) = false := by rw [beq_eq_false_iff_ne]; omega
                go_wp2_with fail
                refine (unhide C8 _ _).mono ?_
                rintro e w1 ⟨rfl, rfl⟩
                rw [unhide HH]
                go_wp2
                go_round
                case rel => exact ⟨k + 1, run + 1, s[k], by omega, by omega, by go_num, rfl, by go_num, HF⟩
                case measure => simp [RowKit.intOf]; omega
      · have HF : Hid (auto s.data.toList 0 46 = (decide (0 < run) && decide (run ≤ 63) && !(p == 45))) := hide (by
          rw [← unhide HA, List.drop_of_length_le (by simp; omega)]; rfl)
        have HP : Hid ((p == 45) = ((p.toNat : Int) == 45)) := hide (by
          rw [Bool.eq_iff_iff, beq_iff_eq, beq_iff_eq]
          exact ⟨fun e => by rw [e]; rfl, byteI (n := 45) (by decide)⟩)
        clear HA
        by_cases hr1 : 0 < run ∧ run ≤ 63
        · have HG : Hid (auto s.data.toList 0 46 = ((p.toNat : Int) != 45)) := hide (by
            rw [unhide HF, unhide HP, decide_eq_true hr1.1, decide_eq_true hr1.2]; rfl)
          obtain ⟨r1, r2⟩ := hr1
          clear HF HP
          go_wp2
          go_ret
          rw [unhide HG]
          exact ⟨rfl, rfl⟩
        · have HG : Hid (auto s.data.toList 0 46 = false) := hide (by
            rw [unhide HF]
            by_cases h1 : 0 < run
            · have : ¬ run ≤ 63 := fun h => hr1 ⟨h1, h⟩
              simp [this]
            · simp [h1])
          clear HF HP
          by_cases h1 : 0 < run
          · have : ¬ run ≤ 63 := fun h => hr1 ⟨h1, h⟩
            clear hr1
            go_wp2
            go_ret
            rw [unhide HG]
            exact ⟨rfl, rfl⟩
          · clear hr1
            go_wp2
            go_ret
            rw [unhide HG]
            exact ⟨rfl, rfl⟩
  · rw [model_out s hg]
    go_enter Tryd.func6, Tryd.ntmps6
    go_wp2
    all_goals first | (go_ret; exact ⟨rfl, rfl⟩) | (exfalso; omega)

end Go.Proofs.Qxb6603915aDoor
