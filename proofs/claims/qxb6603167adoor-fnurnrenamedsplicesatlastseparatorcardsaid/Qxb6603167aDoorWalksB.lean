/-
  THE WALKS of seat b6603167aD, second text: the helpers of the laws, Renamed, and the laws on joined and renamed URNs.
-/
import Derived.Test.Qxb6603167aDoorWalks
import Derived.Deep.QuietTactic
import Derived.BigQuiet
namespace Go.Proofs.Qxb6603167aDoor
open Go.RowKit Go.Lib Plain

set_option maxHeartbeats 400000 in
theorem bytes11 (a b c : ByteArray) (w : World) (hs : a.size + b.size + c.size ≤ 1048576) : Calls Tryd.prog 11 #[.string a, .string b, .string c] w fun e w' => e = .returned (.bool true) ∧ w' = w := by
  go_enter Tryd.func11, Tryd.ntmps11
  go_wp2
  go_ret; exact ⟨rfl, rfl⟩
set_option maxHeartbeats 400000 in
theorem bytes11_no (a b c : ByteArray) (w : World) (hs : 1048576 < a.size + b.size + c.size) (ha : a.size ≤ maxLen) (hb : b.size ≤ maxLen) (hc : c.size ≤ maxLen) :
    Calls Tryd.prog 11 #[.string a, .string b, .string c] w fun e w' => e = .returned (.bool false) ∧ w' = w := by
  unfold maxLen at ha hb hc
  go_enter Tryd.func11, Tryd.ntmps11
  go_wp2
  all_goals (go_ret; exact ⟨rfl, rfl⟩)
set_option maxHeartbeats 400000 in
theorem bytes14 (a b : ByteArray) (w : World) (hs : a.size + b.size ≤ 1048576) : Calls Tryd.prog 14 #[.string a, .string b] w fun e w' => e = .returned (.bool true) ∧ w' = w := by
  go_enter Tryd.func14, Tryd.ntmps14
  go_wp2
  go_ret; exact ⟨rfl, rfl⟩
set_option maxHeartbeats 400000 in
theorem bytes14_no (a b : ByteArray) (w : World) (hs : 1048576 < a.size + b.size) (ha : a.size ≤ maxLen) (hb : b.size ≤ maxLen) :
    Calls Tryd.prog 14 #[.string a, .string b] w fun e w' => e = .returned (.bool false) ∧ w' = w := by
  unfold maxLen at ha hb
  go_enter Tryd.func14, Tryd.ntmps14
  go_wp2
  all_goals (go_ret; exact ⟨rfl, rfl⟩)
set_option maxHeartbeats 400000 in
theorem bytes17 (a b : ByteArray) (w : World) (hs : a.size + b.size ≤ 1048576) : Calls Tryd.prog 17 #[.string a, .string b] w fun e w' => e = .returned (.bool true) ∧ w' = w := by
  go_enter Tryd.func17, Tryd.ntmps17
  go_wp2
  go_ret; exact ⟨rfl, rfl⟩
set_option maxHeartbeats 400000 in
theorem bytes17_no (a b : ByteArray) (w : World) (hs : 1048576 < a.size + b.size) (ha : a.size ≤ maxLen) (hb : b.size ≤ maxLen) :
    Calls Tryd.prog 17 #[.string a, .string b] w fun e w' => e = .returned (.bool false) ∧ w' = w := by
  unfold maxLen at ha hb
  go_enter Tryd.func17, Tryd.ntmps17
  go_wp2
  all_goals (go_ret; exact ⟨rfl, rfl⟩)

/-! ### zzHasSep -/
def hasSepB (l : List UInt8) : Bool := !(index l sep == -1)
theorem getAt (s : ByteArray) (k : Nat) (h : k < s.size) : s.data.toList[k]? = some s[k] := by
  rw [List.getElem?_eq_getElem (by simpa using h)]; rfl
theorem occ_yes (s : ByteArray) (k : Nat) (h : k + 1 < s.size) (a : (s[k].toNat : Int) = 58) (b : (s[k + 1].toNat : Int) = 58) : occAt s.data.toList sep k = true :=
  (occ_iff _ _).2 ⟨by rw [getAt s k (by omega), byte58 a], by rw [getAt s (k + 1) h, byte58 b]⟩
theorem occ_no (s : ByteArray) (k : Nat) (h : k + 1 < s.size) (a : ¬ ((s[k].toNat : Int) = 58 ∧ (s[k + 1].toNat : Int) = 58)) : occAt s.data.toList sep k = false :=
  (noOcc_iff _ _).2 fun ⟨x, y⟩ => a (by
    rw [getAt s k (by omega)] at x; rw [getAt s (k + 1) h] at y
    rw [Option.some.inj x, Option.some.inj y]; exact ⟨rfl, rfl⟩)

set_option maxHeartbeats 1000000 in
theorem hasSep_any (s : ByteArray) (w : World) (hs : s.size ≤ 1048576) :
    Calls Tryd.prog 12 #[.string s] w fun e w' => e = .returned (.bool (hasSepB s.data.toList)) ∧ w' = w := by
  go_enter Tryd.func12, Tryd.ntmps12
  go_wp2
  go_loop [3] (fun ii => ∃ k : Nat, k ≤ s.size ∧ ii = .int .i64 k ∧ Hid (NoOcc s.data.toList sep k)) (fun i => s.size - (RowKit.intOf i).toNat)
  case atStart => exact ⟨0, Nat.zero_le _, rfl, hide (NoOcc.zero _ _)⟩
  case round =>
    obtain ⟨k, hk, rfl, HN⟩ := hrel
    by_cases hlt : k + 1 < s.size
    · by_cases ha : (s[k].toNat : Int) = 58
      · by_cases hb : (s[k + 1].toNat : Int) = 58
        · have HE : Hid (hasSepB s.data.toList = true) := hide (by
            unfold hasSepB
            rw [index_hit (unhide HN) (by simp; omega) (occ_yes s k hlt ha hb)]; simp)
          go_wp2
          go_ret
          rw [unhide HE]; exact ⟨rfl, rfl⟩
        · have HO := hide (occ_no s k hlt (fun x => hb x.2))
          go_wp2
          go_round
          case rel => exact ⟨k + 1, by omega, by go_num, hide ((unhide HN).succ (unhide HO))⟩
          case measure => simp [RowKit.intOf]; omega
      · have HO := hide (occ_no s k hlt (fun x => ha x.1))
        go_wp2
        go_round
        case rel => exact ⟨k + 1, by omega, by go_num, hide ((unhide HN).succ (unhide HO))⟩
        case measure => simp [RowKit.intOf]; omega
    · have HE : Hid (hasSepB s.data.toList = false) := hide (by
        unfold hasSepB
        rw [index_past sep_ne (unhide HN) (by simp [sep]; omega)]; rfl)
      go_wp2
      go_ret
      rw [unhide HE]; exact ⟨rfl, rfl⟩

/-! ### zzEndsColon, zzStartsColon -/
def endsB (l : List UInt8) : Bool := l.getLast? == some 58
def startsB (l : List UInt8) : Bool := l.head? == some 58
theorem ends_at (s : ByteArray) (h : 0 < s.size) : endsB s.data.toList = ((s[s.size - 1].toNat : Int) == 58) := by
  unfold endsB
  rw [List.getLast?_eq_getElem?, show s.data.toList.length = s.size by simp, getAt s _ (by omega)]
  rw [Bool.eq_iff_iff]; simp only [beq_iff_eq, Option.some.injEq]
  exact ⟨fun e => by rw [e]; rfl, byte58⟩
theorem starts_at (s : ByteArray) (h : 0 < s.size) : startsB s.data.toList = ((s[0].toNat : Int) == 58) := by
  unfold startsB
  rw [List.head?_eq_getElem?, getAt s 0 h]
  rw [Bool.eq_iff_iff]; simp only [beq_iff_eq, Option.some.injEq]
  exact ⟨fun e => by rw [e]; rfl, byte58⟩
theorem nil_of_size (s : ByteArray) (h : ¬ 0 < s.size) : s.data.toList = [] := List.eq_nil_of_length_eq_zero (by rw [show s.data.toList.length = s.size by simp]; omega)

set_option maxHeartbeats 400000 in
theorem ends_any (s : ByteArray) (w : World) (hs : s.size ≤ 1048576) :
    Calls Tryd.prog 13 #[.string s] w fun e w' => e = .returned (.bool (endsB s.data.toList)) ∧ w' = w := by
  by_cases h0 : 0 < s.size
  · have HE := hide (ends_at s h0)
    go_enter Tryd.func13, Tryd.ntmps13
    go_wp2
    go_ret
    rw [unhide HE]; exact ⟨by simp, rfl⟩
  · have HE : Hid (endsB s.data.toList = false) := hide (by rw [nil_of_size s h0]; rfl)
    go_enter Tryd.func13, Tryd.ntmps13
    go_wp2
    go_ret
    rw [unhide HE]; exact ⟨rfl, rfl⟩
set_option maxHeartbeats 400000 in
theorem starts_any (s : ByteArray) (w : World) (_hs : s.size ≤ 1048576) :
    Calls Tryd.prog 18 #[.string s] w fun e w' => e = .returned (.bool (startsB s.data.toList)) ∧ w' = w := by
  by_cases h0 : 0 < s.size
  · have HE := hide (starts_at s h0)
    go_enter Tryd.func18, Tryd.ntmps18
    go_wp2
    go_ret
    rw [unhide HE]; exact ⟨by simp, rfl⟩
  · have HE : Hid (startsB s.data.toList = false) := hide (by rw [nil_of_size s h0]; rfl)
    go_enter Tryd.func18, Tryd.ntmps18
    go_wp2
    go_ret
    rw [unhide HE]; exact ⟨rfl, rfl⟩

theorem cell_later {w wx : World} {a : Addr} {v : Value} (hb : Below w.heap.size w wx) (h : w.cell? a = some v) : wx.cell? a = some v := (hb.cell (World.block_lt_of_cell? _ _ h)).trans h

theorem last_sep (u name : List UInt8) (ht : typeL u ≠ []) : ∃ k : Nat, lastIndex u sep = k ∧ k + 2 ≤ u.length ∧ renL u name = u.take (k + 2) ++ name := by
  obtain ⟨k, h2, hk, e1, -, -, -⟩ := ren_splices u name ht
  obtain ⟨a, b, c, h⟩ := names_of_type ht
  have hl : u.length = a.length + 2 + b.length + 2 + c.length := by rw [h.1]; simp [sep]; omega
  have hx : renL u name = u.take ((lastIndex u sep).toNat + 2) ++ name := by unfold renL; rw [if_neg ht]
  rcases last_of_names h with ⟨e, _⟩ | ⟨e, c', hc⟩
  · exact ⟨_, e, by omega, by rw [hx, e, Int.toNat_natCast]⟩
  · have : c.length = c'.length + 1 := by rw [hc]; rfl
    exact ⟨_, e, by omega, by rw [hx, e, Int.toNat_natCast]⟩

set_option maxHeartbeats 400000 in
theorem renamed_any (u name : ByteArray) (m : Int) (w : World) (hu : u.size ≤ 1048576) (hn : name.size ≤ 1048576) (hm : w.cell? ⟨0, 0, none⟩ = some (.int .i64 m)) :
    Calls Tryd.prog 15 #[.string u, .string name] w fun e w' => e = .returned (.string (B (renL u.data.toList name.data.toList))) ∧ Below w.heap.size w w' := by
  have C9 := hide (type_any u m w (by omega) hm)
  by_cases ht : typeL u.data.toList = []
  · have HE := hide (ren_empty u.data.toList name.data.toList ht)
    rw [ht] at C9
    go_enter Tryd.func15, Tryd.ntmps15
    go_wp2_with fail
    refine (unhide C9).mono ?_
    rintro e w1 ⟨rfl, hb⟩
    go_wp2
    go_ret
    rw [unhide HE]
    exact ⟨rfl, hb⟩
  · obtain ⟨k, e0, hk, e1⟩ := last_sep u.data.toList name.data.toList ht
    have hk' : k + 2 ≤ u.size := by simpa using hk
    have HE := hide e1
    have hem : (typeL u.data.toList).isEmpty = false := by simpa using ht
    have C21 := hide (fun w => Tryd.strings_LastIndex u ⟨#[58, 58]⟩ (by omega) w)
    have E0 : Hid (lastIndex u.data.toList (ByteArray.mk #[58, 58]).data.toList = k) := hide e0
    clear hk e0 e1 ht
    go_enter Tryd.func15, Tryd.ntmps15
    go_wp2_with fail
    refine (unhide C9).mono ?_
    rintro e w1 ⟨rfl, hb⟩
    go_wp2_with fail
    refine (unhide C21 _).mono ?_
    rintro e w2 ⟨rfl, rfl⟩
    rw [unhide E0]
    go_wp2
    go_ret
    refine ⟨str_eq ?_, hb⟩
    rw [unhide HE]
    simp

set_option maxHeartbeats 1000000 in
theorem law4 (a b c : ByteArray) (m : Int) (w : World) (ha : a.size ≤ maxLen) (hb : b.size ≤ maxLen) (hc : c.size ≤ maxLen) (hm : w.cell? ⟨0, 0, none⟩ = some (.int .i64 m)) :
    Calls Tryd.prog 4 #[.string a, .string b, .string c] w fun e w' => e = .returned (.bool true) ∧ Below w.heap.size w w' := by
  by_cases hs : a.size + b.size + c.size ≤ 1048576
  · have C11 := hide (bytes11 a b c w hs)
    by_cases hg : a.size ≤ 262144 ∧ b.size ≤ 262144 ∧ c.size ≤ 262144
    · obtain ⟨ga, gb, gc⟩ := hg
      have C1 := hide (hasSep_any a w (by omega))
      have C2 := hide (hasSep_any b w (by omega))
      have C3 := hide (hasSep_any c w (by omega))
      have D1 := hide (ends_any a w (by omega))
      have D2 := hide (ends_any b w (by omega))
      have C9 := hide (type_any (a ++ ⟨#[58, 58]⟩ ++ b ++ ⟨#[58, 58]⟩ ++ c) m w (by simp [ByteArray.size_append]; show a.size + 2 + b.size + 2 + c.size < _; omega) hm)
      clear ha hb hc
      go_enter Tryd.func4, Tryd.ntmps4
      go_wp2_with fail
      refine (unhide C11).mono ?_
      rintro e w1 ⟨rfl, rfl⟩
      go_wp2_with fail
      refine (unhide C1).mono ?_
      rintro e w1 ⟨rfl, rfl⟩
      cases h1 : hasSepB a.data.toList with
      | true => go_wp2; go_ret; exact ⟨rfl, Below.refl _ _⟩
      | false =>
      go_wp2_with fail
      refine (unhide C2).mono ?_
      rintro e w1 ⟨rfl, rfl⟩
      cases h2 : hasSepB b.data.toList with
      | true => go_wp2; go_ret; exact ⟨rfl, Below.refl _ _⟩
      | false =>
      go_wp2_with fail
      refine (unhide C3).mono ?_
      rintro e w1 ⟨rfl, rfl⟩
      cases h3 : hasSepB c.data.toList with
      | true => go_wp2; go_ret; exact ⟨rfl, Below.refl _ _⟩
      | false =>
      go_wp2_with fail
      refine (unhide D1).mono ?_
      rintro e w1 ⟨rfl, rfl⟩
      cases h4 : endsB a.data.toList with
      | true => go_wp2; go_ret; exact ⟨rfl, Below.refl _ _⟩
      | false =>
      go_wp2_with fail
      refine (unhide D2).mono ?_
      rintro e w1 ⟨rfl, rfl⟩
      cases h5 : endsB b.data.toList with
      | true => go_wp2; go_ret; exact ⟨rfl, Below.refl _ _⟩
      | false =>
      have HT : Hid (typeL (a ++ ⟨#[58, 58]⟩ ++ b ++ ⟨#[58, 58]⟩ ++ c).data.toList = b.data.toList) := hide (by
        have := type_joined a.data.toList b.data.toList c.data.toList (by simpa [hasSepB] using h1) (by simpa [hasSepB] using h2) (by simpa [hasSepB] using h3) (by simpa [endsB] using h4) (by simpa [endsB] using h5)
        rw [← this]
        congr 1
        simp [sep])
      go_wp2_with fail
      refine (unhide C9).mono ?_
      rintro e w2 ⟨rfl, hb⟩
      rw [unhide HT]
      go_wp2
      go_ret
      exact ⟨by simp [ByteArray.toList_eq], hb⟩
    · go_enter Tryd.func4, Tryd.ntmps4
      go_wp2_with fail
      refine (unhide C11).mono ?_
      rintro e w1 ⟨rfl, rfl⟩
      go_wp2_with fail
      all_goals first | (go_ret; exact ⟨rfl, Below.refl _ _⟩) | (exfalso; omega)
  · have C11 := hide (bytes11_no a b c w (by omega) ha hb hc)
    go_enter Tryd.func4, Tryd.ntmps4
    go_wp2_with fail
    refine (unhide C11).mono ?_
    rintro e w1 ⟨rfl, rfl⟩
    go_wp2
    go_ret; exact ⟨rfl, Below.refl _ _⟩
set_option maxHeartbeats 1000000 in
theorem law6 (u name : ByteArray) (m : Int) (w : World) (ha : u.size ≤ maxLen) (hb : name.size ≤ maxLen) (hm : w.cell? ⟨0, 0, none⟩ = some (.int .i64 m)) :
    Calls Tryd.prog 6 #[.string u, .string name] w fun e w' => e = .returned (.bool true) ∧ Below w.heap.size w w' := by
  by_cases hs : u.size + name.size ≤ 1048576
  · have C17 := hide (bytes17 u name w hs)
    by_cases hg : u.size ≤ 524288 ∧ name.size ≤ 524288
    · obtain ⟨ga, gb⟩ := hg
      have C1 := hide (hasSep_any name w (by omega))
      have D1 := hide (starts_any name w (by omega))
      have C15 := hide (renamed_any u name m w (by omega) (by omega) hm)
      have hlen : (B (renL u.data.toList name.data.toList)).size < 4294967281 := by
        show (renL u.data.toList name.data.toList).toArray.size < _
        rw [List.size_toArray]
        unfold renL
        have e1 : u.data.toList.length = u.size := by simp
        have e2 : name.data.toList.length = name.size := by simp
        split
        · omega
        · have := List.length_take_le ((lastIndex u.data.toList sep).toNat + 2) u.data.toList
          have := List.length_take_le' ((lastIndex u.data.toList sep).toNat + 2) u.data.toList
          rw [List.length_append]; omega
      have C9 := hide (fun w hm => type_any (B (renL u.data.toList name.data.toList)) m w hlen hm)
      have C9' := hide (fun w hm => type_any u m w (by omega) hm)
      clear ha hb hlen
      go_enter Tryd.func6, Tryd.ntmps6
      go_wp2_with fail
      refine (unhide C17).mono ?_
      rintro e w1 ⟨rfl, rfl⟩
      go_wp2_with fail
      refine (unhide C1).mono ?_
      rintro e w1 ⟨rfl, rfl⟩
      cases h1 : hasSepB name.data.toList with
      | true => go_wp2; go_ret; exact ⟨rfl, Below.refl _ _⟩
      | false =>
      go_wp2_with fail
      refine (unhide D1).mono ?_
      rintro e w1 ⟨rfl, rfl⟩
      cases h2 : startsB name.data.toList with
      | true => go_wp2; go_ret; exact ⟨rfl, Below.refl _ _⟩
      | false =>
      have HT := hide (ren_type u.data.toList name.data.toList (by simpa [hasSepB] using h1) (by simpa [startsB] using h2))
      go_wp2_with fail
      refine (unhide C15).mono ?_
      rintro e w2 ⟨rfl, hb⟩
      have hm2 := cell_later hb hm
      go_wp2_with fail
      refine (unhide C9 _ hm2).mono ?_
      rintro e w3 ⟨rfl, hb3⟩
      have hm3 := cell_later hb3 hm2
      go_wp2_with fail
      refine (unhide C9' _ hm3).mono ?_
      rintro e w4 ⟨rfl, hb4⟩
      have hz := hb.size
      have hz3 := hb3.size
      have hbb := (hb.trans (hb3.mono (by omega))).trans (hb4.mono (by omega))
      clear hb hb3 hb4 hm2 hm3
      rw [unhide HT]
      go_wp2
      go_ret
      exact ⟨by simp, hbb⟩
    · go_enter Tryd.func6, Tryd.ntmps6
      go_wp2_with fail
      refine (unhide C17).mono ?_
      rintro e w1 ⟨rfl, rfl⟩
      go_wp2_with fail
      all_goals first | (go_ret; exact ⟨rfl, Below.refl _ _⟩) | (exfalso; omega)
  · have C17 := hide (bytes17_no u name w (by omega) ha hb)
    go_enter Tryd.func6, Tryd.ntmps6
    go_wp2_with fail
    refine (unhide C17).mono ?_
    rintro e w1 ⟨rfl, rfl⟩
    go_wp2
    go_ret; exact ⟨rfl, Below.refl _ _⟩

theorem ba_ext (a b : ByteArray) (h : a.data.toList = b.data.toList) : a = b := by
  obtain ⟨⟨x⟩⟩ := a; obtain ⟨⟨y⟩⟩ := b
  simpa using h
/-- zzSameBytes: it is used where the two are one. -/
theorem same_yes (a b : ByteArray) (w : World) (hs : a.size ≤ 2097152) (hab : a = b) :
    Calls Tryd.prog 16 #[.string a, .string b] w fun e w' => e = .returned (.bool true) ∧ ∃ n, w' = w.drewN n := by
  subst hab
  go_enter Tryd.func16, Tryd.ntmps16
  go_wp2
  go_loopw [5] (fun ii w' => ∃ k : Nat, k ≤ a.size ∧ ii = .int .i64 k ∧ ∃ n, w' = w.drewN n) (fun i _ => a.size - (RowKit.intOf i).toNat)
  case atStart => exact ⟨0, Nat.zero_le _, rfl, 0, rfl⟩
  case round =>
    obtain ⟨k, hk, rfl, n, rfl⟩ := hrel
    by_cases hlt : k < a.size
    · go_wp2
      go_region
      go_wp2
      exact ⟨⟨k + 1, by omega, by go_num, n + 1, rfl⟩, by simp [RowKit.intOf]; omega⟩
    · go_wp2
      go_ret
      exact ⟨rfl, n, rfl⟩
end Go.Proofs.Qxb6603167aDoor
