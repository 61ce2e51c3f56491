/-
  THE WALKS of the law's own helpers, seat b6603845aD: zzBytes, hasByte, asciiWhite, white3, whiteAtStart.
-/
import Derived.Test.Qxb6603845aDoorChecked
import Derived.Test.Qxb6603845aDoorPlain
import Derived.WalkKit
import Derived.WalkLawsBesides
import Derived.WalkSpells
import Derived.Deep.QuietTactic
import Derived.BigQuiet
namespace Go.Proofs.Qxb6603845aDoor
open Go.RowKit Go.Lib Plain

theorem hide {p : Prop} (h : p) : Hid p := h
theorem unhide {p : Prop} (h : Hid p) : p := h
theorem drop_at (s : ByteArray) (k : Nat) (h : k < s.size) : s.data.toList.drop k = s[k] :: s.data.toList.drop (k + 1) := by
  rw [List.drop_eq_getElem_cons (by simpa using h)]; rfl
theorem byteI {b : UInt8} {n : Nat} (hn : n < 256) (h : (b.toNat : Int) = n) : b = n.toUInt8 := by
  apply UInt8.toNat_inj.1
  have : b.toNat = n := by omega
  rw [this]; simp; omega
theorem bool_ret {a b : Bool} (h : a = b) : Ending.returned (Value.bool a) = .returned (.bool b) := by rw [h]
theorem int_ret {a b : Int} (h : a = b) : Ending.returned (Value.int .i64 a) = .returned (.int .i64 b) := by rw [h]

/-! ### zzBytes -/
set_option maxHeartbeats 1000000 in
theorem bytes4 (a b c : ByteArray) (w : World) (ha : a.size ≤ maxLen) (hb : b.size ≤ maxLen) (hc : c.size ≤ maxLen) : Calls Tryd.prog 4 #[.string a, .string b, .string c] w fun e w' => e = .returned (.bool (decide (a.size + b.size + c.size ≤ 1048576))) ∧ w' = w := by
  unfold maxLen at ha hb hc
  by_cases h : a.size + b.size + c.size ≤ 1048576
  · rw [decide_eq_true h]
    go_enter Tryd.func4, Tryd.ntmps4
    go_wp2
    go_ret; exact ⟨rfl, rfl⟩
  · rw [decide_eq_false h]
    by_cases h1 : a.size ≤ 1048576
    · by_cases h2 : b.size ≤ 1048576
      · by_cases h3 : a.size + b.size ≤ 1048576
        · by_cases h4 : c.size ≤ 1048576
          · go_enter Tryd.func4, Tryd.ntmps4
            go_wp2
            go_ret; exact ⟨rfl, rfl⟩
          · go_enter Tryd.func4, Tryd.ntmps4
            go_wp2
            go_ret; exact ⟨rfl, rfl⟩
        · go_enter Tryd.func4, Tryd.ntmps4
          go_wp2
          go_ret; exact ⟨rfl, rfl⟩
      · go_enter Tryd.func4, Tryd.ntmps4
        go_wp2
        go_ret; exact ⟨rfl, rfl⟩
    · go_enter Tryd.func4, Tryd.ntmps4
      go_wp2
      go_ret; exact ⟨rfl, rfl⟩

/-! ### hasByte -/
def hasL (b : UInt8) (l : List UInt8) : Bool := decide (b ∈ l)
set_option maxHeartbeats 1000000 in
theorem hasByte_any (s : ByteArray) (b : UInt8) (w : World) (hs : s.size ≤ 1048576) :
    Calls Tryd.prog 5 #[.string s, .int .u8 (b.toNat : Int)] w fun e w' => e = .returned (.bool (hasL b s.data.toList)) ∧ w' = w := by
  go_enter Tryd.func5, Tryd.ntmps5
  go_wp2
  go_loop [5] (fun ii => ∃ k : Nat, k ≤ s.size ∧ ii = .int .i64 k ∧ Hid (hasL b s.data.toList = hasL b (s.data.toList.drop k))) (fun i => s.size - (RowKit.intOf i).toNat)
  case atStart => exact ⟨0, Nat.zero_le _, rfl, hide rfl⟩
  case round =>
    obtain ⟨k, hk, rfl, HA⟩ := hrel
    by_cases hlt : k < s.size
    · have HD := hide (drop_at s k hlt)
      by_cases hc : (s[k].toNat : Int) = b.toNat
      · have HF : Hid (hasL b s.data.toList = true) := hide (by
          rw [unhide HA, unhide HD, show s[k] = b from UInt8.toNat_inj.1 (by omega)]; simp [hasL])
        clear HA HD
        go_wp2
        go_ret; rw [unhide HF]; exact ⟨rfl, rfl⟩
      · have HF : Hid (hasL b s.data.toList = hasL b (s.data.toList.drop (k + 1))) := hide (by
          rw [unhide HA, unhide HD]
          have : b ≠ s[k] := fun e => hc (by rw [e])
          simp [hasL, this])
        clear HA HD
        go_wp2
        go_round
        case rel => exact ⟨k + 1, by omega, by go_num, HF⟩
        case measure => simp [RowKit.intOf]; omega
    · have HF : Hid (hasL b s.data.toList = false) := hide (by
        rw [unhide HA, List.drop_eq_nil_of_le (by simp; omega)]; simp [hasL])
      clear HA
      go_wp2
      go_ret; rw [unhide HF]; exact ⟨rfl, rfl⟩

/-! ### asciiWhite, white3 -/
def asciiI (c : Int) : Bool := c == 9 || c == 10 || c == 11 || c == 12 || c == 13 || c == 32
theorem beqU (b : UInt8) (n : Nat) (hn : n < 256) : ((b.toNat : Int) == (n : Int)) = (b == n.toUInt8) := by
  rw [Bool.eq_iff_iff, beq_iff_eq, beq_iff_eq]
  exact ⟨fun h => byteI hn h, fun h => by rw [h]; simp; omega⟩
theorem asciiI_eq (c : UInt8) : asciiI (c.toNat : Int) = asciiW c := by
  unfold asciiI asciiW
  rw [show ((c.toNat : Int) == 9) = (c == 9) from beqU c 9 (by decide), show ((c.toNat : Int) == 10) = (c == 10) from beqU c 10 (by decide), show ((c.toNat : Int) == 11) = (c == 11) from beqU c 11 (by decide),
    show ((c.toNat : Int) == 12) = (c == 12) from beqU c 12 (by decide), show ((c.toNat : Int) == 13) = (c == 13) from beqU c 13 (by decide), show ((c.toNat : Int) == 32) = (c == 32) from beqU c 32 (by decide)]
set_option maxHeartbeats 1000000 in
theorem asciiWhite_int (c : Int) (w : World) : Calls Tryd.prog 9 #[.int .u8 c] w fun e w' => e = .returned (.bool (asciiI c)) ∧ w' = w := by
  go_enter Tryd.func9, Tryd.ntmps9
  go_wp2
  all_goals (go_ret; refine ⟨bool_ret ?_, rfl⟩; unfold asciiI; first | rfl | (rw [Bool.eq_iff_iff]; simp only [Bool.or_eq_true, beq_iff_eq]; first | omega | (rw [true_iff]; omega)))
theorem asciiWhite_any (c : UInt8) (w : World) : Calls Tryd.prog 9 #[.int .u8 (c.toNat : Int)] w fun e w' => e = .returned (.bool (asciiW c)) ∧ w' = w := by
  rw [← asciiI_eq]; exact asciiWhite_int _ w
def white3I (a b c : Int) : Bool :=
  (a == 0xE1 && (b == 0x9A && c == 0x80)) || (a == 0xE3 && (b == 0x80 && c == 0x80)) || (a == 0xE2 && ((b == 0x81 && c == 0x9F) || (b == 0x80 && ((decide (0x80 ≤ c) && decide (c ≤ 0x8A)) || c == 0xA8 || c == 0xA9 || c == 0xAF))))
theorem neU {a b : UInt8} (h : (a.toNat : Int) ≠ b.toNat) : a ≠ b := fun e => h (by rw [e])
theorem white3I_eq (a b c : UInt8) : white3I (a.toNat : Int) b.toNat c.toNat = white3 a b c := by
  unfold white3I white3
  rw [show ((a.toNat : Int) == 0xE1) = (a == 0xE1) from beqU a 0xE1 (by decide), show ((a.toNat : Int) == 0xE2) = (a == 0xE2) from beqU a 0xE2 (by decide), show ((a.toNat : Int) == 0xE3) = (a == 0xE3) from beqU a 0xE3 (by decide),
    show ((b.toNat : Int) == 0x9A) = (b == 0x9A) from beqU b 0x9A (by decide), show ((b.toNat : Int) == 0x80) = (b == 0x80) from beqU b 0x80 (by decide), show ((b.toNat : Int) == 0x81) = (b == 0x81) from beqU b 0x81 (by decide),
    show ((c.toNat : Int) == 0x80) = (c == 0x80) from beqU c 0x80 (by decide), show ((c.toNat : Int) == 0x9F) = (c == 0x9F) from beqU c 0x9F (by decide),
    show ((c.toNat : Int) == 0xA8) = (c == 0xA8) from beqU c 0xA8 (by decide), show ((c.toNat : Int) == 0xA9) = (c == 0xA9) from beqU c 0xA9 (by decide), show ((c.toNat : Int) == 0xAF) = (c == 0xAF) from beqU c 0xAF (by decide),
    show decide ((0x80 : Int) ≤ c.toNat) = decide (0x80 ≤ c.toNat) from decide_eq_decide.2 (by omega), show decide ((c.toNat : Int) ≤ 0x8A) = decide (c.toNat ≤ 0x8A) from decide_eq_decide.2 (by omega)]
  by_cases h1 : a = 0xE1
  · subst h1; simp
  · by_cases h2 : a = 0xE3
    · subst h2; simp
    · by_cases h3 : a = 0xE2
      · subst h3
        by_cases h4 : b = 0x81
        · subst h4; simp
        · by_cases h5 : b = 0x80
          · subst h5; simp
          · simp [h4, h5]
      · simp [h1, h2, h3]
set_option maxHeartbeats 2000000 in
theorem white3_int (a b c : Int) (w : World) : Calls Tryd.prog 10 #[.int .u8 a, .int .u8 b, .int .u8 c] w fun e w' => e = .returned (.bool (white3I a b c)) ∧ w' = w := by
  go_enter Tryd.func10, Tryd.ntmps10
  go_wp2
  all_goals (go_ret; refine ⟨bool_ret ?_, rfl⟩; unfold white3I; rw [Bool.eq_iff_iff]; simp only [beq_eq_false_iff_ne, bne_iff_ne, bne_eq_false_iff_eq, Bool.or_eq_true, Bool.and_eq_true, decide_eq_true_eq, beq_iff_eq, true_iff, Bool.false_eq_true, false_iff, ne_eq] at *; omega)
theorem white3_any (a b c : UInt8) (w : World) : Calls Tryd.prog 10 #[.int .u8 (a.toNat : Int), .int .u8 (b.toNat : Int), .int .u8 (c.toNat : Int)] w fun e w' => e = .returned (.bool (white3 a b c)) ∧ w' = w := by
  rw [← white3I_eq]; exact white3_int _ _ _ w
end Go.Proofs.Qxb6603845aDoor
