/-
  THE WALKS of seat b6603167aD: what each Go function on the four roads computes.
-/
import Derived.Test.Qxb6603167aDoorChecked
import Derived.Test.Qxb6603167aDoorShelf
import Derived.Test.Qxb6603167aDoorPlain
import Derived.WalkKit
import Derived.WalkLawsBesides
import Derived.WalkSpells
namespace Go.Proofs.Qxb6603167aDoor
open Go.RowKit Go.Lib Plain

abbrev B (l : List UInt8) : ByteArray := ⟨l.toArray⟩
theorem B_self (s : ByteArray) : B s.data.toList = s := rfl
theorem str_eq {a b : ByteArray} (h : a.data.toList = b.data.toList) : Ending.returned (Value.string a) = .returned (.string b) := by
  have : a = b := by
    obtain ⟨⟨x⟩⟩ := a; obtain ⟨⟨y⟩⟩ := b
    simpa using h
  rw [this]

set_option maxHeartbeats 400000 in
theorem bytes8 (s : ByteArray) (w : World) (hs : s.size ≤ 1048576) : Calls Tryd.prog 8 #[.string s] w fun e w' => e = .returned (.bool true) ∧ w' = w := by
  go_enter Tryd.func8, Tryd.ntmps8
  go_wp2
  go_ret; exact ⟨rfl, rfl⟩

set_option maxHeartbeats 400000 in
theorem bytes8_no (s : ByteArray) (w : World) (hs : 1048576 < s.size) (hx : s.size ≤ maxLen) : Calls Tryd.prog 8 #[.string s] w fun e w' => e = .returned (.bool false) ∧ w' = w := by
  unfold maxLen at hx
  go_enter Tryd.func8, Tryd.ntmps8
  go_wp2
  go_ret; exact ⟨rfl, rfl⟩

/-- The pieces of a URN that has three. -/
theorem pieces (s : ByteArray) (h : countB s ⟨#[58, 58]⟩ = 2) : ∃ x z : ByteArray, splitB ⟨#[58, 58]⟩ 0 2 s = [x, B (typeL s.data.toList), z] := by
  have hl := splitB_all ⟨#[58, 58]⟩ (by decide) 0 2 s h
  have hd := splitB_data ⟨#[58, 58]⟩ 0 2 s
  match hsp : splitB ⟨#[58, 58]⟩ 0 2 s with
  | [x, y, z] =>
    refine ⟨x, z, ?_⟩
    rw [hsp] at hd
    have ht : typeL s.data.toList = y.data.toList := by
      unfold typeL
      have hc : count s.data.toList sep = 2 := h
      rw [if_pos hc]
      have hd' : splitK sep 0 2 s.data.toList = [x.data.toList, y.data.toList, z.data.toList] := hd.symm
      rw [hd']; rfl
    rw [ht]
  | [] => rw [hsp] at hl; simp at hl
  | [_] => rw [hsp] at hl; simp at hl
  | [_, _] => rw [hsp] at hl; simp at hl
  | _ :: _ :: _ :: _ :: _ => rw [hsp] at hl; simp at hl

set_option maxHeartbeats 400000 in
theorem type_any (s : ByteArray) (m : Int) (w : World) (hs : s.size < 4294967281) (hm : w.cell? ⟨0, 0, none⟩ = some (.int .i64 m)) :
    Calls Tryd.prog 9 #[.string s] w fun e w' => e = .returned (.string (B (typeL s.data.toList))) ∧ Below w.heap.size w w' := by
  by_cases hc : countB s ⟨#[58, 58]⟩ = 2
  · obtain ⟨x, z, hsp⟩ := pieces s hc
    go_enter Tryd.func9, Tryd.ntmps9
    go_wp2_with fail
    refine (Tryd.strings_Split s ⟨#[58, 58]⟩ m _ hs hm (by decide)).mono ?_
    rintro e w' ⟨rfl, rfl⟩
    rw [hc, hsp]
    clear hsp hc
    go_wp2
    go_ret; exact ⟨rfl, (Below.refl _ _).alloc (Nat.le_refl _) _⟩
  · have ht : typeL s.data.toList = [] := by
      unfold typeL
      exact if_neg hc
    rw [ht]
    have hle := countB_le ⟨#[58, 58]⟩ (by decide) _ s (Nat.le_refl _)
    have hne : (((countB s ⟨#[58, 58]⟩ : Nat) : Int) + 1 != 3) = true := by rw [bne_iff_ne]; omega
    go_enter Tryd.func9, Tryd.ntmps9
    go_wp2_with fail
    refine (Tryd.strings_Split s ⟨#[58, 58]⟩ m _ hs hm (by decide)).mono ?_
    rintro e w' ⟨rfl, rfl⟩
    generalize (splitB ⟨#[58, 58]⟩ 0 (countB s ⟨#[58, 58]⟩) s) = ps
    generalize countB s ⟨#[58, 58]⟩ = k at *
    go_wp2
    go_ret; exact ⟨rfl, (Below.refl _ _).alloc (Nat.le_refl _) _⟩

theorem hide {p : Prop} (h : p) : Hid p := h
theorem unhide {p : Prop} (h : Hid p) : p := h
theorem drop_at (s : ByteArray) (k : Nat) (h : k < s.size) : s.data.toList.drop k = s[k] :: s.data.toList.drop (k + 1) := by
  rw [List.drop_eq_getElem_cons (by simpa using h)]; rfl
theorem byte58 {b : UInt8} (h : (b.toNat : Int) = 58) : b = 58 := by
  apply UInt8.toNat_inj.1; show b.toNat = 58; omega
theorem not58 {b : UInt8} (h : ¬ (b.toNat : Int) = 58) : ¬ b = 58 := fun e => h (by rw [e]; rfl)

theorem step_hit (s : ByteArray) (k c f t : Nat) (h : k + 1 < s.size) (a : (s[k].toNat : Int) = 58) (b : (s[k + 1].toNat : Int) = 58) :
    scan (s.data.toList.drop k) k c f t = scan (s.data.toList.drop (k + 2)) (k + 2) (c + 1) (if c = 0 then k else f) (if c = 1 then k else t) := by
  rw [drop_at s k (by omega), drop_at s (k + 1) h, byte58 a, byte58 b, scan_hit]
theorem step_miss (s : ByteArray) (k c f t : Nat) (h : k + 1 < s.size) (a : ¬ ((s[k].toNat : Int) = 58 ∧ (s[k + 1].toNat : Int) = 58)) :
    scan (s.data.toList.drop k) k c f t = scan (s.data.toList.drop (k + 1)) (k + 1) c f t := by
  rw [drop_at s k (by omega), drop_at s (k + 1) h, scan_miss]
  rintro ⟨x, y⟩
  exact a ⟨by rw [x]; rfl, by rw [y]; rfl⟩
theorem step_end (s : ByteArray) (k c f t : Nat) (h : ¬ k + 1 < s.size) (hk : k ≤ s.size) : scan (s.data.toList.drop k) k c f t = (c, f, t) := by
  by_cases e : k = s.size
  · rw [List.drop_of_length_le (by simp; omega), scan_nil]
  · rw [drop_at s k (by omega), List.drop_of_length_le (by simp; omega), scan_one]
theorem bool_int {a b : Int} (h : (a == b) = true) : a = b := beq_iff_eq.1 h
theorem bool_int' {a b : Int} (h : (a == b) = false) : ¬ a = b := by simpa using h

set_option maxHeartbeats 1000000 in
theorem model_any (s : ByteArray) (w : World) (hs : s.size ≤ 1048576) :
    Calls Tryd.prog 10 #[.string s] w fun e w' => e = .returned (.string (B (modelL s.data.toList))) ∧ w' = w := by
  go_enter Tryd.func10, Tryd.ntmps10
  go_wp2
  go_loop [3, 4, 5, 6] (fun cc ff ss ii => ∃ k c f t : Nat, k ≤ s.size ∧ c ≤ k ∧ f ≤ k ∧ t ≤ k ∧ (1 ≤ c → f + 2 ≤ k) ∧ (2 ≤ c → f + 2 ≤ t) ∧ cc = .int .i64 c ∧ ff = .int .i64 f ∧ ss = .int .i64 t ∧ ii = .int .i64 k ∧
    Hid (scan (s.data.toList.drop k) k c f t = scan s.data.toList 0 0 0 0)) (fun _ _ _ i => s.size - (RowKit.intOf i).toNat)
  case atStart => exact ⟨0, 0, 0, 0, Nat.zero_le _, Nat.le_refl _, Nat.le_refl _, Nat.le_refl _, by omega, by omega, rfl, rfl, rfl, rfl, hide rfl⟩
  case round =>
    obtain ⟨k, c, f, t, hk, hc, hf, ht, h1, h2, rfl, rfl, rfl, rfl, HS⟩ := hrel
    by_cases hlt : k + 1 < s.size
    · have SH := fun a b => hide (step_hit s k c f t hlt a b)
      have SM := fun a => hide (step_miss s k c f t hlt a)
      by_cases ha : (s[k].toNat : Int) = 58
      · by_cases hb : (s[k + 1].toNat : Int) = 58
        · have SH' := SH ha hb
          clear SH SM
          by_cases c0 : c = 0
          · subst c0
            go_wp2
            go_round
            case rel => exact ⟨k + 2, 1, k, t, by omega, by omega, by omega, by omega, by omega, by omega, by go_num, rfl, rfl, by go_num, hide (by rw [← unhide HS, unhide SH']; rfl)⟩
            case measure => simp [RowKit.intOf]; omega
          · by_cases c1 : c = 1
            · subst c1
              go_wp2
              go_round
              case rel => exact ⟨k + 2, 2, f, k, by omega, by omega, by omega, by omega, by omega, by omega, by go_num, rfl, rfl, by go_num, hide (by rw [← unhide HS, unhide SH']; rfl)⟩
              case measure => simp [RowKit.intOf]; omega
            · have n0 : ((c : Int) == 0) = false := by rw [beq_eq_false_iff_ne]; omega
              have n1 : ((c : Int) == 1) = false := by rw [beq_eq_false_iff_ne]; omega
              go_wp2
              go_round
              case rel => exact ⟨k + 2, c + 1, f, t, by omega, by omega, by omega, by omega, by omega, by omega, by go_num, rfl, rfl, by go_num, hide (by rw [← unhide HS, unhide SH', if_neg c0, if_neg c1])⟩
              case measure => simp [RowKit.intOf]; omega
        · have SM' := SM (fun x => hb x.2)
          clear SH SM
          go_wp2
          go_round
          case rel => exact ⟨k + 1, c, f, t, by omega, by omega, by omega, by omega, by omega, by omega, rfl, rfl, rfl, by go_num, hide (by rw [← unhide HS, unhide SM'])⟩
          case measure => simp [RowKit.intOf]; omega
      · have SM' := SM (fun x => ha x.1)
        clear SH SM
        go_wp2
        go_round
        case rel => exact ⟨k + 1, c, f, t, by omega, by omega, by omega, by omega, by omega, by omega, rfl, rfl, rfl, by go_num, hide (by rw [← unhide HS, unhide SM'])⟩
        case measure => simp [RowKit.intOf]; omega
    · have HE : Hid (scan s.data.toList 0 0 0 0 = (c, f, t)) := hide (by rw [← unhide HS, step_end s k c f t hlt hk])
      clear HS
      by_cases c2 : c = 2
      · subst c2
        have hb := h2 (by omega)
        go_wp2
        go_ret
        refine ⟨str_eq ?_, rfl⟩
        unfold modelL
        rw [unhide HE]
        simp
      · have n2 : ((c : Int) != 2) = true := by rw [bne_iff_ne]; omega
        go_wp2
        go_ret
        refine ⟨str_eq ?_, rfl⟩
        unfold modelL
        rw [unhide HE, if_neg c2]


set_option maxHeartbeats 400000 in
/-- THE FIRST LAW's WALK. -/
theorem law3 (s : ByteArray) (m : Int) (w : World) (hx : s.size ≤ maxLen) (hm : w.cell? ⟨0, 0, none⟩ = some (.int .i64 m)) :
    Calls Tryd.prog 3 #[.string s] w fun e w' => e = .returned (.bool true) ∧ Below w.heap.size w w' := by
  by_cases hs : s.size ≤ 1048576
  · have c8 := bytes8 s w hs
    have c9 := type_any s m w (by omega) hm
    have hl := type_eq_model s.data.toList
    have HL := hide hl
    have C10 := hide (fun w => model_any s w hs)
    clear hl
    go_enter Tryd.func3, Tryd.ntmps3
    go_wp2_with fail
    refine c8.mono ?_
    rintro e w1 ⟨rfl, rfl⟩
    clear c8
    go_wp2_with fail
    refine c9.mono ?_
    rintro e w2 ⟨rfl, hb⟩
    clear c9
    go_wp2_with fail
    refine (unhide C10 _).mono ?_
    rintro e w3 ⟨rfl, rfl⟩
    rw [unhide HL]
    go_wp2
    go_ret
    exact ⟨by simp, hb⟩
  · have c8 := bytes8_no s w (by omega) hx
    go_enter Tryd.func3, Tryd.ntmps3
    go_wp2_with fail
    refine c8.mono ?_
    rintro e w1 ⟨rfl, rfl⟩
    go_wp2
    go_ret
    exact ⟨rfl, Below.refl _ _⟩

end Go.Proofs.Qxb6603167aDoor
