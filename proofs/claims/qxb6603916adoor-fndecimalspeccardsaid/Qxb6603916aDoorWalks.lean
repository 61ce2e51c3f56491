/-
  THE WALKS of seat b6603916aD: what digitsOf and exponentOf compute.
-/
import Derived.Test.Qxb6603916aDoorChecked
import Derived.Test.Qxb6603916aDoorShelf
import Derived.Test.Qxb6603916aDoorPlain
import Derived.Lib.IndexBytes
import Derived.WalkKit
import Derived.WalkLawsBesides
import Derived.WalkSpells
namespace Go.Proofs.Qxb6603916aDoor
open Go.RowKit Go.Lib Plain

theorem hide {p : Prop} (h : p) : Hid p := h
theorem unhide {p : Prop} (h : Hid p) : p := h
theorem ba_ext (a b : ByteArray) (h : a.data.toList = b.data.toList) : a = b := by
  obtain ⟨⟨x⟩⟩ := a; obtain ⟨⟨y⟩⟩ := b
  simpa using h
theorem getAt (s : ByteArray) (k : Nat) (h : k < s.size) : s.data.toList[k]? = some s[k] := by
  rw [List.getElem?_eq_getElem (by simpa using h)]; rfl
theorem drop_at (s : ByteArray) (k : Nat) (h : k < s.size) : s.data.toList.drop k = s[k] :: s.data.toList.drop (k + 1) := by
  rw [List.drop_eq_getElem_cons (by simpa using h)]; rfl
theorem nil_of_size {s : ByteArray} (h : s.size = 0) : s.data.toList = [] := List.eq_nil_of_length_eq_zero (by rw [show s.data.toList.length = s.size by simp]; exact h)
theorem ne_of_size {s : ByteArray} (h : 0 < s.size) : s.data.toList ≠ [] := fun e => by
  have : s.data.toList.length = s.size := by simp
  rw [e] at this; simp at this; omega
theorem size_of_ne {s : ByteArray} (h : s.data.toList ≠ []) : 0 < s.size := by
  rcases Nat.eq_zero_or_pos s.size with e | e
  · exact absurd (nil_of_size e) h
  · exact e
theorem byteI {b : UInt8} {n : Nat} (hn : n < 256) (h : (b.toNat : Int) = n) : b = n.toUInt8 := by
  apply UInt8.toNat_inj.1
  have : b.toNat = n := by omega
  rw [this]; simp; omega
theorem ret2_eq {a b : ByteArray} {x y : Bool} (h : a.data.toList = b.data.toList) (hx : x = y) : Ending.returned (Value.tuple #[.string a, .bool x]) = .returned (.tuple #[.string b, .bool y]) := by
  rw [ba_ext a b h, hx]

theorem slice_to (v : ByteArray) (k : Nat) (h : k ≤ v.size) (wx : World) : (Instr.slice 9 (.string v) none (some (.int .i64 (k : Int))) none).run Tryd.prog wx = .ok (.string (v.extract 0 k)) wx := by
  rw [run_slice_string_to_if (t := 9) (s := v) (k := .i64) (j := k) (h := Tryd.underlying9), if_pos ⟨by omega, by omega⟩, Int.toNat_natCast]
theorem slice_from (v : ByteArray) (k : Nat) (h : k ≤ v.size) (wx : World) : (Instr.slice 9 (.string v) (some (.int .i64 (k : Int))) none none).run Tryd.prog wx = .ok (.string (v.extract k v.size)) wx := by
  rw [run_slice_string_from_if (t := 9) (s := v) (k := .i64) (i := k) (h := Tryd.underlying9), if_pos ⟨by omega, by omega⟩, Int.toNat_natCast]

set_option maxHeartbeats 400000 in
theorem bytes5 (s : ByteArray) (w : World) (hs : s.size ≤ 1048576) : Calls Tryd.prog 5 #[.string s] w fun e w' => e = .returned (.bool true) ∧ w' = w := by
  go_enter Tryd.func5, Tryd.ntmps5
  go_wp2
  go_ret; exact ⟨rfl, rfl⟩
set_option maxHeartbeats 400000 in
theorem bytes5_no (s : ByteArray) (w : World) (hs : 1048576 < s.size) (hx : s.size ≤ maxLen) : Calls Tryd.prog 5 #[.string s] w fun e w' => e = .returned (.bool false) ∧ w' = w := by
  unfold maxLen at hx
  go_enter Tryd.func5, Tryd.ntmps5
  go_wp2
  go_ret; exact ⟨rfl, rfl⟩
set_option maxHeartbeats 400000 in
theorem bytes8 (s : ByteArray) (w : World) (hs : s.size ≤ 1048576) : Calls Tryd.prog 8 #[.string s] w fun e w' => e = .returned (.bool true) ∧ w' = w := by
  go_enter Tryd.func8, Tryd.ntmps8
  go_wp2
  go_ret; exact ⟨rfl, rfl⟩
set_option maxHeartbeats 400000 in
theorem bytes8_no (s : ByteArray) (w : World) (hs : 1048576 < s.size) (hx : s.size ≤ maxLen) : Calls Tryd.prog 8 #[.string s] w fun e w' => e = .returned (.bool false) ∧ w' = w := by
  unfold maxLen at hx
  go_enter Tryd.func8, Tryd.ntmps8
  go_wp2
  go_ret; exact ⟨rfl, rfl⟩

/-! ### digitsOf -/
def digB (s : ByteArray) : ByteArray := ⟨(s.data.toList.takeWhile dig).toArray⟩
def restB (s : ByteArray) : ByteArray := ⟨(s.data.toList.dropWhile dig).toArray⟩
theorem digB_data (s : ByteArray) : (digB s).data.toList = s.data.toList.takeWhile dig := rfl
theorem restB_data (s : ByteArray) : (restB s).data.toList = s.data.toList.dropWhile dig := rfl

theorem digB_le (s : ByteArray) : (digB s).size ≤ s.size := by
  rw [size_eq, digB_data, size_eq]
  exact (List.takeWhile_prefix dig).length_le
theorem restB_le (s : ByteArray) : (restB s).size ≤ s.size := by
  rw [size_eq, restB_data, size_eq]
  exact (List.dropWhile_suffix dig).length_le

theorem take_all_while : ∀ (l : List UInt8) (k : Nat), (l.take k).all dig = true → (∀ c, l[k]? = some c → dig c = false) → l.takeWhile dig = l.take k ∧ l.dropWhile dig = l.drop k
  | [], k, _, _ => by simp
  | c :: r, 0, _, h => by
    have := h c rfl
    simp [this]
  | c :: r, k + 1, ha, h => by
    rw [List.take_succ_cons, List.all_cons, Bool.and_eq_true] at ha
    have ih := take_all_while r k ha.2 (fun c' hc => h c' (by simpa using hc))
    simp [ha.1, ih.1, ih.2]

theorem dig_iff (c : UInt8) : dig c = true ↔ (48 ≤ (c.toNat : Int) ∧ (c.toNat : Int) ≤ 57) := by
  unfold dig; simp only [Bool.and_eq_true, decide_eq_true_eq]; omega

theorem extract_take (s : ByteArray) (k : Nat) : (s.extract 0 k).data.toList = s.data.toList.take k := by
  rw [extract_data]; simp

set_option maxHeartbeats 1000000 in
theorem digits_any (s : ByteArray) (w : World) (hs : s.size ≤ 1048577) :
    Calls Tryd.prog 14 #[.string s] w fun e w' => e = .returned (.tuple #[.string (digB s), .string (restB s)]) ∧ ∃ n, w' = w.drewN n := by
  go_enter Tryd.func14, Tryd.ntmps14
  go_wp2
  go_loop [4] (fun ii => ∃ k : Nat, k ≤ s.size ∧ ii = .int .i64 k ∧ Hid ((s.data.toList.take k).all dig = true)) (fun i => s.size - (RowKit.intOf i).toNat)
  case atStart => exact ⟨0, Nat.zero_le _, rfl, hide (by simp)⟩
  case round =>
    obtain ⟨k, hk, rfl, HA⟩ := hrel
    by_cases hlt : k < s.size
    · by_cases hd : dig s[k] = true
      · have HN : Hid ((s.data.toList.take (k + 1)).all dig = true) := hide (by
          rw [List.take_succ_eq_append_getElem (by simpa using hlt), List.all_append, unhide HA, Bool.true_and, List.all_cons, List.all_nil, Bool.and_true]
          exact hd)
        obtain ⟨d1, d2⟩ := (dig_iff _).1 hd
        clear hd HA
        go_wp2
        go_round
        case rel => exact ⟨k + 1, by omega, by go_num, HN⟩
        case measure => simp [RowKit.intOf]; omega
      · have HT := hide (take_all_while s.data.toList k (unhide HA) (fun c hc => by
          rw [getAt s k hlt] at hc; rw [← Option.some.inj hc]; simpa using hd))
        have hn : ¬ (48 ≤ (s[k].toNat : Int) ∧ (s[k].toNat : Int) ≤ 57) := fun x => hd ((dig_iff _).2 x)
        have sl1 := slice_to s k (by omega)
        have sl2 := slice_from s k (by omega)
        clear hd HA
        have fin : ∀ n, (Ending.returned (.tuple #[.string (s.extract 0 k), .string (s.extract k s.size)]) = .returned (.tuple #[.string (digB s), .string (restB s)]) ∧ ∃ m, w.drewN n = w.drewN m) := fun n => by
          rw [ba_ext (s.extract 0 k) (digB s) (by rw [extract_take, digB_data, (unhide HT).1]), ba_ext (s.extract k s.size) (restB s) (by rw [extract_to_end, restB_data, (unhide HT).2])]
          exact ⟨rfl, n, rfl⟩
        have FIN := hide fin
        clear fin
        by_cases h48 : 48 ≤ (s[k].toNat : Int)
        · have h57 : ¬ (s[k].toNat : Int) ≤ 57 := fun x => hn ⟨h48, x⟩
          clear hn
          go_wp2
          go_region
          go_wp2
          go_ret2
          exact unhide FIN 1
        · clear hn
          go_wp2
          go_region
          go_wp2
          go_ret2
          exact unhide FIN 1
    · have HT := hide (take_all_while s.data.toList k (unhide HA) (fun c hc => by
        rw [List.getElem?_eq_none (by simp; omega)] at hc; cases hc))
      have sl1 := slice_to s k (by omega)
      have sl2 := slice_from s k (by omega)
      have fin : ∀ n, (Ending.returned (.tuple #[.string (s.extract 0 k), .string (s.extract k s.size)]) = .returned (.tuple #[.string (digB s), .string (restB s)]) ∧ ∃ m, w.drewN n = w.drewN m) := fun n => by
        rw [ba_ext (s.extract 0 k) (digB s) (by rw [extract_take, digB_data, (unhide HT).1]), ba_ext (s.extract k s.size) (restB s) (by rw [extract_to_end, restB_data, (unhide HT).2])]
        exact ⟨rfl, n, rfl⟩
      have FIN := hide fin
      clear fin
      go_wp2
      go_region
      go_wp2
      go_ret2
      exact unhide FIN 1

/-! ### exponentOf -/
def expB (s : ByteArray) : ByteArray := ⟨((expOf s.data.toList).getD []).toArray⟩
def expOK (s : ByteArray) : Bool := (expOf s.data.toList).isSome
theorem expB_data (s : ByteArray) : (expB s).data.toList = (expOf s.data.toList).getD [] := rfl

theorem exp_ret (s : ByteArray) (a : ByteArray) (b : Bool) (h : expOf s.data.toList = if b then some a.data.toList else none) (hb : b = false → a.data.toList = []) :
    Ending.returned (Value.tuple #[.string a, .bool b]) = .returned (.tuple #[.string (expB s), .bool (expOK s)]) := by
  refine ret2_eq ?_ ?_
  · rw [expB_data, h]
    cases b
    · rw [hb rfl]; rfl
    · rfl
  · unfold expOK; rw [h]; cases b <;> rfl

/-- Behind the 'e' and the sign: the last steps of exponentOf, in plain words. -/
theorem expTail_ok (r : ByteArray) (h1 : 0 < (digB r).size) (h2 : (restB r).size = 0) : expTail r.data.toList = some (digB r).data.toList := by
  unfold expTail
  rw [if_neg]
  · rfl
  · rintro (h | h)
    · exact ne_of_size h1 (by rw [digB_data]; exact h)
    · exact h (by rw [← restB_data]; exact nil_of_size h2)
theorem expTail_no1 (r : ByteArray) (h1 : (digB r).size = 0) : expTail r.data.toList = none := by
  unfold expTail
  rw [if_pos (.inl (by rw [← digB_data]; exact nil_of_size h1))]
theorem expTail_no2 (r : ByteArray) (h2 : 0 < (restB r).size) : expTail r.data.toList = none := by
  unfold expTail
  rw [if_pos (.inr (by rw [← restB_data]; exact ne_of_size h2))]

theorem Q0 (w : World) : ∃ n, w = w.drewN n := ⟨0, rfl⟩
theorem Qd {w x : World} (h : ∃ n, x = w.drewN n) : ∃ n, x.drew = w.drewN n := by
  obtain ⟨n, rfl⟩ := h; exact ⟨n + 1, rfl⟩
theorem Qn {w x : World} (h : ∃ n, x = w.drewN n) (k : Nat) : ∃ n, x.drewN k = w.drewN n := by
  obtain ⟨n, rfl⟩ := h; exact ⟨n + k, by rw [World.drewN_drewN]⟩
theorem neqI {b : UInt8} {n : Int} (h : ¬ (b.toNat : Int) = n) : ((b.toNat : Int) != n) = true := by rw [bne_iff_ne]; exact h

theorem exp_nil {s r : ByteArray} {c : UInt8} (h : s.data.toList = c :: r.data.toList) (he : c = 101 ∨ c = 69) (hr : r.size = 0) : expOf s.data.toList = none := by
  rw [h, expOf_e _ _ he, nil_of_size hr]
theorem exp_sign {s r q : ByteArray} {c : UInt8} (h : s.data.toList = c :: r.data.toList) (he : c = 101 ∨ c = 69) (hr : 0 < r.size) (hq : q.data.toList = r.data.toList.drop 1) (hd : r[0] = 43 ∨ r[0] = 45) :
    expOf s.data.toList = (expTail q.data.toList).map fun t => (101 : UInt8) :: r[0] :: t := by
  have e1 : r.data.toList = r[0] :: r.data.toList.drop 1 := by have := drop_at r 0 hr; rwa [List.drop_zero] at this
  rw [h, expOf_e _ _ he, e1]
  simp only [if_pos hd]
  rw [← hq]
theorem exp_plain {s r : ByteArray} {c : UInt8} (h : s.data.toList = c :: r.data.toList) (he : c = 101 ∨ c = 69) (hr : 0 < r.size) (hd : ¬ (r[0] = 43 ∨ r[0] = 45)) :
    expOf s.data.toList = (expTail r.data.toList).map fun t => (101 : UInt8) :: t := by
  have e1 : r.data.toList = r[0] :: r.data.toList.drop 1 := by have := drop_at r 0 hr; rwa [List.drop_zero] at this
  rw [h, expOf_e _ _ he]
  rw [e1]
  simp only [if_neg hd]

set_option maxHeartbeats 4000000 in
theorem exponent_any (s : ByteArray) (w : World) (hs : s.size ≤ 1048577) :
    Calls Tryd.prog 12 #[.string s] w fun e w' => e = .returned (.tuple #[.string (expB s), .bool (expOK s)]) ∧ ∃ n, w' = w.drewN n := by
  by_cases h0 : s.size = 0
  · have HR := hide (exp_ret s ⟨#[]⟩ true (by rw [nil_of_size h0]; rfl) (by simp))
    have hem : s.toList = [] := by rw [ByteArray.toList_eq]; exact nil_of_size h0
    go_enter Tryd.func12, Tryd.ntmps12
    go_wp2
    go_ret2
    exact ⟨unhide HR, 0, rfl⟩
  · have s1 : 0 < s.size := by omega
    have hem : s.toList.isEmpty = false := by rw [List.isEmpty_eq_false_iff, ByteArray.toList_eq]; exact ne_of_size s1
    have HD : Hid (s.data.toList = s[0] :: s.data.toList.drop 1) := hide (by have := drop_at s 0 s1; rwa [List.drop_zero] at this)
    have C14 := hide digits_any
    by_cases he : s[0] = 101 ∨ s[0] = 69
    · have hr : ∃ r : ByteArray, s.extract 1 s.size = r ∧ r.data.toList = s.data.toList.drop 1 ∧ r.size + 1 = s.size := ⟨_, rfl, by rw [extract_to_end], by simp; omega⟩
      obtain ⟨r, er, dr, sr⟩ := hr
      have sl1 : ∀ wx, (Instr.slice 9 (.string s) (some (.int .i64 1)) none none).run Tryd.prog wx = .ok (.string r) wx := fun wx => by
        rw [← er]; exact slice_from s 1 (by omega) wx
      have HS : Hid (s.data.toList = s[0] :: r.data.toList) := hide (by rw [dr]; exact unhide HD)
      have hcase : ((s[0].toNat : Int) = 101) ∨ (¬ (s[0].toNat : Int) = 101 ∧ (s[0].toNat : Int) = 69) := by
        rcases he with h | h
        · left; rw [h]; rfl
        · right; rw [h]; decide
      have HEE := hide he
      clear HD dr er he
      have hsr : r.size ≤ 1048577 := by omega
      by_cases r0 : r.size = 0
      · have HR := hide (exp_ret s ⟨#[]⟩ false (exp_nil (unhide HS) (unhide HEE) r0) (fun _ => rfl))
        have hre : r.toList = [] := by rw [ByteArray.toList_eq]; exact nil_of_size r0
        have hde : (digB r).toList = [] := by rw [ByteArray.toList_eq, digB_data, nil_of_size r0]; rfl
        rcases hcase with hc | ⟨hc, hc'⟩
        all_goals
          go_enter Tryd.func12, Tryd.ntmps12
          go_wp2
          go_region
          clear sl1
          go_wp2_with fail
          refine (unhide C14 r _ hsr).mono ?_
          rintro e w1 ⟨rfl, n, rfl⟩
          go_wp2
          go_ret2
          exact ⟨unhide HR, by first | exact ⟨_, rfl⟩ | exact Qn (Qd (Q0 _)) _⟩
      · have r1 : 0 < r.size := by omega
        have hre : r.toList.isEmpty = false := by rw [List.isEmpty_eq_false_iff, ByteArray.toList_eq]; exact ne_of_size r1
        by_cases hd : r[0] = 43 ∨ r[0] = 45
        · have hq : ∃ q : ByteArray, r.extract 1 r.size = q ∧ q.data.toList = r.data.toList.drop 1 ∧ q.size + 1 = r.size := ⟨_, rfl, by rw [extract_to_end], by simp; omega⟩
          obtain ⟨q, eq, dq, sq⟩ := hq
          obtain ⟨g, eg⟩ : ∃ g : ByteArray, r.extract 0 1 = g := ⟨_, rfl⟩
          have dg : g.data.toList = [r[0]] := by
            rw [← eg, extract_take]
            have := drop_at r 0 r1
            rw [List.drop_zero] at this
            rw [this]; rfl
          have sl2 : ∀ wx, (Instr.slice 9 (.string r) (some (.int .i64 1)) none none).run Tryd.prog wx = .ok (.string q) wx := fun wx => by
            rw [← eq]; exact slice_from r 1 (by omega) wx
          have sl3 : ∀ wx, (Instr.slice 9 (.string r) none (some (.int .i64 1)) none).run Tryd.prog wx = .ok (.string g) wx := fun wx => by
            rw [← eg]; exact slice_to r 1 (by omega) wx
          have HX := hide (exp_sign (unhide HS) (unhide HEE) r1 dq hd)
          have DG := hide dg
          have hdc : ((r[0].toNat : Int) = 43) ∨ (¬ (r[0].toNat : Int) = 43 ∧ (r[0].toNat : Int) = 45) := by
            rcases hd with h | h
            · left; rw [h]; rfl
            · right; rw [h]; decide
          have hsq : q.size ≤ 1048577 := by omega
          clear hd dq eq eg dg HS HEE
          by_cases hz : (digB q).size = 0
          · have HR := hide (exp_ret s ⟨#[]⟩ false (by rw [unhide HX, expTail_no1 q hz]; rfl) (fun _ => rfl))
            have hde : (digB q).toList = [] := by rw [ByteArray.toList_eq]; exact nil_of_size hz
            rcases hcase with hc | ⟨hc, hc'⟩ <;> rcases hdc with hf | ⟨hf, hf'⟩
            all_goals
              go_enter Tryd.func12, Tryd.ntmps12
              go_wp2
              go_region
              clear sl1
              go_wp2_with fail
              go_region
              clear sl2 sl3
              go_wp2_with fail
              refine (unhide C14 q _ hsq).mono ?_
              rintro e w1 ⟨rfl, n, rfl⟩
              go_wp2
              go_ret2
              exact ⟨unhide HR, by first | exact ⟨_, rfl⟩ | exact Qn (Qd (Qd (Q0 _))) _⟩
          · have z1 : 0 < (digB q).size := by omega
            have hde : (digB q).toList.isEmpty = false := by rw [List.isEmpty_eq_false_iff, ByteArray.toList_eq]; exact ne_of_size z1
            by_cases hy : (restB q).size = 0
            · have hye : (restB q).toList = [] := by rw [ByteArray.toList_eq]; exact nil_of_size hy
              have HT := hide (expTail_ok q z1 hy)
              have hgz : g.size ≤ 1 := by rw [size_eq, unhide DG]; simp
              have hdz := digB_le q
              rcases hcase with hc | ⟨hc, hc'⟩ <;> rcases hdc with hf | ⟨hf, hf'⟩
              all_goals
                go_enter Tryd.func12, Tryd.ntmps12
                go_wp2
                go_region
                clear sl1
                go_wp2_with fail
                go_region
                clear sl2 sl3
                go_wp2_with fail
                refine (unhide C14 q _ hsq).mono ?_
                rintro e w1 ⟨rfl, n, rfl⟩
                go_wp2
                go_ret2
                refine ⟨exp_ret s _ true ?_ (by simp), by first | exact ⟨_, rfl⟩ | exact Qn (Qd (Qd (Q0 _))) _⟩
                rw [unhide HX, unhide HT]
                simp [unhide DG]
            · have y1 : 0 < (restB q).size := by omega
              have hye : (restB q).toList.isEmpty = false := by rw [List.isEmpty_eq_false_iff, ByteArray.toList_eq]; exact ne_of_size y1
              have HR := hide (exp_ret s ⟨#[]⟩ false (by rw [unhide HX, expTail_no2 q y1]; rfl) (fun _ => rfl))
              rcases hcase with hc | ⟨hc, hc'⟩ <;> rcases hdc with hf | ⟨hf, hf'⟩
              all_goals
                go_enter Tryd.func12, Tryd.ntmps12
                go_wp2
                go_region
                clear sl1
                go_wp2_with fail
                go_region
                clear sl2 sl3
                go_wp2_with fail
                refine (unhide C14 q _ hsq).mono ?_
                rintro e w1 ⟨rfl, n, rfl⟩
                go_wp2
                go_ret2
                exact ⟨unhide HR, by first | exact ⟨_, rfl⟩ | exact Qn (Qd (Qd (Q0 _))) _⟩
        · have HX := hide (exp_plain (unhide HS) (unhide HEE) r1 hd)
          have n1 : ¬ (r[0].toNat : Int) = 43 := fun e => hd (.inl (byteI (n := 43) (by decide) e))
          have n2 : ¬ (r[0].toNat : Int) = 45 := fun e => hd (.inr (byteI (n := 45) (by decide) e))
          have m1 : ((r[0].toNat : Int) == 43) = false := by rw [beq_eq_false_iff_ne]; exact n1
          have m2 : ((r[0].toNat : Int) == 45) = false := by rw [beq_eq_false_iff_ne]; exact n2
          clear hd HS HEE
          by_cases hz : (digB r).size = 0
          · have HR := hide (exp_ret s ⟨#[]⟩ false (by rw [unhide HX, expTail_no1 r hz]; rfl) (fun _ => rfl))
            have hde : (digB r).toList = [] := by rw [ByteArray.toList_eq]; exact nil_of_size hz
            rcases hcase with hc | ⟨hc, hc'⟩
            all_goals
              go_enter Tryd.func12, Tryd.ntmps12
              go_wp2
              go_region
              clear sl1
              go_wp2_with fail
              refine (unhide C14 r _ hsr).mono ?_
              rintro e w1 ⟨rfl, n, rfl⟩
              go_wp2
              go_ret2
              exact ⟨unhide HR, by first | exact ⟨_, rfl⟩ | exact Qn (Qd (Q0 _)) _⟩
          · have z1 : 0 < (digB r).size := by omega
            have hde : (digB r).toList.isEmpty = false := by rw [List.isEmpty_eq_false_iff, ByteArray.toList_eq]; exact ne_of_size z1
            by_cases hy : (restB r).size = 0
            · have hye : (restB r).toList = [] := by rw [ByteArray.toList_eq]; exact nil_of_size hy
              have HT := hide (expTail_ok r z1 hy)
              have hdz := digB_le r
              rcases hcase with hc | ⟨hc, hc'⟩
              all_goals
                go_enter Tryd.func12, Tryd.ntmps12
                go_wp2
                go_region
                clear sl1
                go_wp2_with fail
                refine (unhide C14 r _ hsr).mono ?_
                rintro e w1 ⟨rfl, n, rfl⟩
                go_wp2
                go_ret2
                refine ⟨exp_ret s _ true ?_ (by simp), by first | exact ⟨_, rfl⟩ | exact Qn (Qd (Q0 _)) _⟩
                rw [unhide HX, unhide HT]
                simp
            · have y1 : 0 < (restB r).size := by omega
              have hye : (restB r).toList.isEmpty = false := by rw [List.isEmpty_eq_false_iff, ByteArray.toList_eq]; exact ne_of_size y1
              have HR := hide (exp_ret s ⟨#[]⟩ false (by rw [unhide HX, expTail_no2 r y1]; rfl) (fun _ => rfl))
              rcases hcase with hc | ⟨hc, hc'⟩
              all_goals
                go_enter Tryd.func12, Tryd.ntmps12
                go_wp2
                go_region
                clear sl1
                go_wp2_with fail
                refine (unhide C14 r _ hsr).mono ?_
                rintro e w1 ⟨rfl, n, rfl⟩
                go_wp2
                go_ret2
                exact ⟨unhide HR, by first | exact ⟨_, rfl⟩ | exact Qn (Qd (Q0 _)) _⟩
    · have HR := hide (exp_ret s ⟨#[]⟩ false (by rw [unhide HD, expOf_no _ _ he]; rfl) (fun _ => rfl))
      have n1 : ¬ (s[0].toNat : Int) = 101 := fun e => he (.inl (byteI (n := 101) (by decide) e))
      have n2 : ¬ (s[0].toNat : Int) = 69 := fun e => he (.inr (byteI (n := 69) (by decide) e))
      have m1 := neqI n1
      have m2 := neqI n2
      clear he HD
      go_enter Tryd.func12, Tryd.ntmps12
      go_wp2
      go_ret2
      exact ⟨unhide HR, 0, rfl⟩

end Go.Proofs.Qxb6603916aDoor
