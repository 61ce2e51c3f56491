/-
  THE WALKS of seat b6603916aD, second text: decimal.
-/
import Derived.Test.Qxb6603916aDoorWalks
namespace Go.Proofs.Qxb6603916aDoor
open Go.RowKit Go.Lib Plain

def numB (s : ByteArray) : ByteArray := ⟨(((decL s.data.toList).getD ([], false)).1).toArray⟩
def intB (s : ByteArray) : Bool := ((decL s.data.toList).getD ([], false)).2
def okB (s : ByteArray) : Bool := (decL s.data.toList).isSome

theorem ret3_eq {a b : ByteArray} {x y x' y' : Bool} (h : a.data.toList = b.data.toList) (hx : x = y) (hx' : x' = y') :
    Ending.returned (Value.tuple #[.string a, .bool x, .bool x']) = .returned (.tuple #[.string b, .bool y, .bool y']) := by
  rw [ba_ext a b h, hx, hx']
theorem dec_ret (s a : ByteArray) (b : Bool) (h : decL s.data.toList = some (a.data.toList, b)) :
    Ending.returned (Value.tuple #[.string a, .bool b, .bool true]) = .returned (.tuple #[.string (numB s), .bool (intB s), .bool (okB s)]) := by
  refine ret3_eq ?_ ?_ ?_
  · show _ = ((decL s.data.toList).getD ([], false)).1
    rw [h]; rfl
  · unfold intB; rw [h]; rfl
  · unfold okB; rw [h]; rfl
theorem dec_no (s : ByteArray) (h : decL s.data.toList = none) :
    Ending.returned (Value.tuple #[.string ⟨#[]⟩, .bool false, .bool false]) = .returned (.tuple #[.string (numB s), .bool (intB s), .bool (okB s)]) := by
  refine ret3_eq ?_ ?_ ?_
  · show _ = ((decL s.data.toList).getD ([], false)).1
    rw [h]; rfl
  · unfold intB; rw [h]; rfl
  · unfold okB; rw [h]; rfl

theorem prefix_iff (s : ByteArray) (c : UInt8) : hasPrefix s.data.toList [c] = true ↔ ∃ r : ByteArray, s.data.toList = c :: r.data.toList ∧ r = s.extract 1 s.size ∧ r.size + 1 = s.size := by
  constructor
  · intro h
    have hne : 0 < s.size := size_of_ne (fun e => by rw [e] at h; simp [hasPrefix] at h)
    have e1 : s.data.toList = s[0] :: s.data.toList.drop 1 := by have := drop_at s 0 hne; rwa [List.drop_zero] at this
    refine ⟨_, ?_, rfl, by simp; omega⟩
    rw [extract_to_end]
    have hc : s[0] = c := by
      rw [e1] at h
      have h' : (c == s[0]) = true := by simpa [hasPrefix] using h
      exact (beq_iff_eq.1 h').symm
    rw [← hc]; exact e1
  · rintro ⟨r, h, _⟩
    rw [h]; simp [hasPrefix]

/-- What follows the whole digits, as decimal reads it. -/
theorem tail_point (neg : Bool) (w : List UInt8) (r1 r2 : ByteArray) (h : r1.data.toList = 46 :: r2.data.toList) :
    tailL neg w r1.data.toList = if w = [] ∧ (digB r2).data.toList = [] then none else (expOf (restB r2).data.toList).map fun e => (numL neg w (digB r2).data.toList e, false) := by
  rw [h]; rfl
theorem tail_none (neg : Bool) (w : List UInt8) (r1 : ByteArray) (h : hasPrefix r1.data.toList [46] = false) :
    tailL neg w r1.data.toList = if w = [] then none else (expOf r1.data.toList).map fun e => (numL neg w [] e, decide (e = [])) := by
  cases hl : r1.data.toList with
  | nil => simp [tailL, expOf]
  | cons c r =>
    have hc : ¬ c = 46 := fun e => by rw [hl, e] at h; simp [hasPrefix] at h
    simp only [tailL]
    rw [if_neg hc]

theorem num_eq (neg : Bool) (w f e : List UInt8) (sg T F E : ByteArray) (hsg : sg.data.toList = if neg then [45] else []) (hT : T.data.toList = if trimLeftB w 48 = [] then [48] else trimLeftB w 48)
    (hF : F.data.toList = if f = [] then [] else 46 :: f) (hE : E.data.toList = e) : (sg ++ T ++ F ++ E).data.toList = numL neg w f e := by
  unfold numL
  rw [← hsg, ← hT, ← hF, ← hE]
  simp

theorem exp_none {r : ByteArray} (h : expOK r = false) : expOf r.data.toList = none := by
  unfold expOK at h; cases h' : expOf r.data.toList <;> rw [h'] at h <;> simp_all
theorem exp_some {r : ByteArray} (h : expOK r = true) : expOf r.data.toList = some (expB r).data.toList := by
  rw [expB_data]
  unfold expOK at h; cases h' : expOf r.data.toList <;> rw [h'] at h <;> simp_all
theorem expTail_len {r t : List UInt8} (h : expTail r = some t) : t.length ≤ r.length := by
  unfold expTail at h
  split at h
  · cases h
  · rw [← Option.some.inj h]; exact (List.takeWhile_prefix dig).length_le
theorem exp_len {l e : List UInt8} (h : expOf l = some e) : e.length ≤ l.length := by
  cases l with
  | nil => simp [expOf] at h; subst h; simp
  | cons c r =>
    by_cases he : c = 101 ∨ c = 69
    · rw [expOf_e c r he] at h
      cases r with
      | nil => simp at h
      | cons d r' =>
        simp only at h
        split at h
        · cases ht : expTail r' with
          | none => rw [ht] at h; simp at h
          | some t =>
            rw [ht] at h
            have := expTail_len ht
            simp at h; subst h; simp; omega
        · cases ht : expTail (d :: r') with
          | none => rw [ht] at h; simp at h
          | some t =>
            rw [ht] at h
            have := expTail_len ht
            simp at h; subst h; simp at this ⊢; omega
    · rw [expOf_no c r he] at h; cases h
theorem expB_le (r : ByteArray) : (expB r).size ≤ r.size := by
  rw [size_eq, expB_data, size_eq]
  cases h : expOf r.data.toList with
  | none => simp
  | some e => exact exp_len h

def trimB (s : ByteArray) : ByteArray := ⟨(trimLeftB s.data.toList 48).toArray⟩
theorem trimB_data (s : ByteArray) : (trimB s).data.toList = trimLeftB s.data.toList 48 := rfl
theorem trimB_le (s : ByteArray) : (trimB s).size ≤ s.size := by
  rw [size_eq, trimB_data, size_eq]
  exact (List.dropWhile_suffix _).length_le
theorem trim_any (s : ByteArray) (w : World) : Calls Tryd.prog 15 #[.string s, .string ⟨#[48]⟩] w fun e w' => e = .returned (.string (trimB s)) ∧ w' = w :=
  Tryd.strings_TrimLeft_one s 48 (by decide) w

theorem isE {a : ByteArray} (h : a.size = 0) : a.toList = [] := by rw [ByteArray.toList_eq]; exact nil_of_size h
theorem notE {a : ByteArray} (h : ¬ a.size = 0) : a.toList.isEmpty = false := by rw [List.isEmpty_eq_false_iff, ByteArray.toList_eq]; exact ne_of_size (by omega)

theorem sign_cases (s : ByteArray) :
    (∃ r0 : ByteArray, hasPrefix s.data.toList [45] = true ∧ decL s.data.toList = decU true r0.data.toList ∧ r0 = s.extract 1 s.size ∧ r0.size + 1 = s.size) ∨
    (∃ r0 : ByteArray, hasPrefix s.data.toList [45] = false ∧ hasPrefix s.data.toList [43] = true ∧ decL s.data.toList = decU false r0.data.toList ∧ r0 = s.extract 1 s.size ∧ r0.size + 1 = s.size) ∨
    (hasPrefix s.data.toList [45] = false ∧ hasPrefix s.data.toList [43] = false ∧ decL s.data.toList = decU false s.data.toList) := by
  cases h1 : hasPrefix s.data.toList [45] with
  | true =>
    obtain ⟨r, e, hr, hz⟩ := (prefix_iff s 45).1 h1
    exact .inl ⟨r, rfl, by rw [e]; rfl, hr, hz⟩
  | false =>
    cases h2 : hasPrefix s.data.toList [43] with
    | true =>
      obtain ⟨r, e, hr, hz⟩ := (prefix_iff s 43).1 h2
      exact .inr (.inl ⟨r, rfl, rfl, by rw [e]; rfl, hr, hz⟩)
    | false =>
      refine .inr (.inr ⟨rfl, rfl, ?_⟩)
      cases hl : s.data.toList with
      | nil => rfl
      | cons c r =>
        rw [decL_cons]
        have a : ¬ c = 45 := fun e => by rw [hl, e] at h1; simp [hasPrefix] at h1
        have b : ¬ c = 43 := fun e => by rw [hl, e] at h2; simp [hasPrefix] at h2
        rw [if_neg a, if_neg b]

/-! ### the three ways -/
theorem dec_empty (a : ByteArray) : decide (a.data.toList = []) = a.toList.isEmpty := by
  rw [ByteArray.toList_eq]; cases a.data.toList <;> simp

set_option maxHeartbeats 20000000 in
theorem dec_minus (s r0 : ByteArray) (w : World) (hs : s.size ≤ 1048577) (p1 : hasPrefix s.data.toList [45] = true) (hx : decL s.data.toList = decU true r0.data.toList) (hr : r0 = s.extract 1 s.size) (hz : r0.size + 1 = s.size) :
    Calls Tryd.prog 11 #[.string s] w fun e w' => e = .returned (.tuple #[.string (numB s), .bool (intB s), .bool (okB s)]) ∧ ∃ n, w' = w.drewN n := by
  have C13 := hide Tryd.strings_HasPrefix
  have C14 := hide digits_any
  have C12 := hide exponent_any
  have C15 := hide trim_any
  have sl1 : ∀ wx, (Instr.slice 9 (.string s) (some (.int .i64 1)) none none).run Tryd.prog wx = .ok (.string r0) wx := fun wx => by
    rw [hr]; exact slice_from s 1 (by omega) wx
  have HX := hide hx
  have P1 : Hid (hasPrefix s.data.toList (ByteArray.mk #[45]).data.toList = true) := hide p1
  have hsz : r0.size ≤ 1048577 := by omega
  clear hx hr p1
  go_enter Tryd.func11, Tryd.ntmps11
  go_wp2_with fail
  refine (unhide C13 _ _ _).mono ?_
  rintro e w1 ⟨rfl, rfl⟩
  rw [unhide P1]
  go_wp2_with fail
  go_region
  clear sl1 P1
  go_wp2_with fail
  refine (unhide C14 _ _ hsz).mono ?_
  rintro e w2 ⟨rfl, n2, hw2⟩
  have hq2 : ∃ n, w2 = w1.drewN n := by rw [hw2]; exact Qn (Qd (Q0 _)) _
  clear hw2
  have dl := digB_le r0
  have rl := restB_le r0
  go_wp2_with fail
  refine (unhide C13 _ _ _).mono ?_
  rintro e w3 ⟨rfl, rfl⟩
  cases hp : hasPrefix (restB r0).data.toList (ByteArray.mk #[46]).data.toList with
  | true =>
    obtain ⟨r2, e2, hr2, hz2⟩ := (prefix_iff (restB r0) 46).1 hp
    have HU : Hid (decL s.data.toList = if (digB r0).data.toList = [] ∧ (digB r2).data.toList = [] then none else (expOf (restB r2).data.toList).map fun e => (numL true (digB r0).data.toList (digB r2).data.toList e, false)) := hide (by rw [unhide HX]; exact tail_point true _ (restB r0) r2 e2)
    have sl2 : ∀ wx, (Instr.slice 9 (.string (restB r0)) (some (.int .i64 1)) none none).run Tryd.prog wx = .ok (.string r2) wx := fun wx => by
      rw [hr2]; exact slice_from (restB r0) 1 (by omega) wx
    have hsz2 : r2.size ≤ 1048577 := by omega
    clear e2 hr2 hp HX
    go_wp2_with fail
    clear sl2
    refine (unhide C14 _ _ hsz2).mono ?_
    rintro e w4 ⟨rfl, n4, hw4⟩
    have hq4 : ∃ n, w4 = w1.drewN n := by rw [hw4]; exact Qn hq2 _
    have dl2 := digB_le r2
    have rl2 := restB_le r2
    have hsz3 : (restB r2).size ≤ 1048577 := by omega
    clear hw4 hq2
    by_cases b1 : (digB r0).size = 0 ∧ (digB r2).size = 0
    · have HR := hide (dec_no s (by rw [unhide HU, if_pos ⟨nil_of_size b1.1, nil_of_size b1.2⟩]))
      obtain ⟨b2, b3⟩ := b1
      have x1 := isE b2
      have x2 := isE b3
      clear b2 b3 HU
      go_wp2
      go_ret3
      exact ⟨unhide HR, hq4⟩
    · have HV : Hid (decL s.data.toList = (expOf (restB r2).data.toList).map fun e => (numL true (digB r0).data.toList (digB r2).data.toList e, false)) := hide (by
        rw [unhide HU, if_neg]
        rintro ⟨a, b⟩
        exact b1 ⟨by rw [size_eq, a]; rfl, by rw [size_eq, b]; rfl⟩)
      clear HU
      by_cases wz : (digB r0).size = 0
      · have fz0 : ¬ (digB r2).size = 0 := fun x => b1 ⟨wz, x⟩
        have x1 := isE wz
        have x2 := notE fz0
        clear b1
        go_wp2_with fail
        refine (unhide C12 _ _ hsz3).mono ?_
        rintro e w5 ⟨rfl, n5, hw5⟩
        have hq5 : ∃ n, w5 = w1.drewN n := by rw [hw5]; exact Qn hq4 _
        clear hw5 hq4
        cases ho : expOK (restB r2) with
        | false =>
          have HR := hide (dec_no s (by rw [unhide HV, exp_none ho]; rfl))
          go_wp2
          go_ret3
          exact ⟨unhide HR, hq5⟩
        | true =>
          have HE := hide (exp_some ho)
          have el := expB_le (restB r2)
          go_wp2_with fail
          refine (unhide C15 _ _).mono ?_
          rintro e w6 ⟨rfl, rfl⟩
          have tl := trimB_le (digB r0)
          have tz : (trimB (digB r0)).size = 0 := by omega
          have TZ : Hid (trimLeftB (digB r0).data.toList 48 = []) := hide (by rw [← trimB_data]; exact nil_of_size tz)
          have tq := isE tz
          have FZ : Hid (¬ (digB r2).data.toList = []) := hide (ne_of_size (by omega))
          go_wp2
          go_ret3
          refine ⟨dec_ret s _ _ ?_, hq5⟩
          rw [unhide HV, unhide HE, Option.map_some]
          simp [numL, unhide TZ, unhide FZ]
      · have x1 := notE wz
        clear b1
        go_wp2_with fail
        refine (unhide C12 _ _ hsz3).mono ?_
        rintro e w5 ⟨rfl, n5, hw5⟩
        have hq5 : ∃ n, w5 = w1.drewN n := by rw [hw5]; exact Qn hq4 _
        clear hw5 hq4
        cases ho : expOK (restB r2) with
        | false =>
          have HR := hide (dec_no s (by rw [unhide HV, exp_none ho]; rfl))
          go_wp2
          go_ret3
          exact ⟨unhide HR, hq5⟩
        | true =>
          have HE := hide (exp_some ho)
          have el := expB_le (restB r2)
          go_wp2_with fail
          refine (unhide C15 _ _).mono ?_
          rintro e w6 ⟨rfl, rfl⟩
          have tl := trimB_le (digB r0)
          by_cases tz : (trimB (digB r0)).size = 0
          · have TZ : Hid (trimLeftB (digB r0).data.toList 48 = []) := hide (by rw [← trimB_data]; exact nil_of_size tz)
            have tq := isE tz
            by_cases fz : (digB r2).size = 0
            · have FZ : Hid ((digB r2).data.toList = []) := hide (nil_of_size fz)
              have fq := isE fz
              go_wp2
              go_ret3
              refine ⟨dec_ret s _ _ ?_, hq5⟩
              rw [unhide HV, unhide HE, Option.map_some]
              simp [numL, unhide TZ, unhide FZ]
            · have FZ : Hid (¬ (digB r2).data.toList = []) := hide (ne_of_size (by omega))
              have fq := notE fz
              go_wp2
              go_ret3
              refine ⟨dec_ret s _ _ ?_, hq5⟩
              rw [unhide HV, unhide HE, Option.map_some]
              simp [numL, unhide TZ, unhide FZ]
          · have TZ : Hid (¬ trimLeftB (digB r0).data.toList 48 = []) := hide (by rw [← trimB_data]; exact ne_of_size (by omega))
            have tq := notE tz
            by_cases fz : (digB r2).size = 0
            · have FZ : Hid ((digB r2).data.toList = []) := hide (nil_of_size fz)
              have fq := isE fz
              go_wp2
              go_ret3
              refine ⟨dec_ret s _ _ ?_, hq5⟩
              rw [unhide HV, unhide HE, Option.map_some]
              simp [numL, trimB_data, unhide TZ, unhide FZ]
            · have FZ : Hid (¬ (digB r2).data.toList = []) := hide (ne_of_size (by omega))
              have fq := notE fz
              go_wp2
              go_ret3
              refine ⟨dec_ret s _ _ ?_, hq5⟩
              rw [unhide HV, unhide HE, Option.map_some]
              simp [numL, trimB_data, unhide TZ, unhide FZ]
  | false =>
    have HU : Hid (decL s.data.toList = if (digB r0).data.toList = [] then none else (expOf (restB r0).data.toList).map fun e => (numL true (digB r0).data.toList [] e, decide (e = []))) := hide (by rw [unhide HX]; exact tail_none true _ (restB r0) hp)
    have hsz3 : (restB r0).size ≤ 1048577 := by omega
    have hq4 := hq2
    clear hp HX hq2
    by_cases b1 : (digB r0).size = 0
    · have HR := hide (dec_no s (by rw [unhide HU, if_pos (nil_of_size b1)]))
      have x1 := isE b1
      clear b1 HU
      go_wp2
      go_ret3
      exact ⟨unhide HR, hq4⟩
    · have HV : Hid (decL s.data.toList = (expOf (restB r0).data.toList).map fun e => (numL true (digB r0).data.toList [] e, decide (e = []))) := hide (by
        rw [unhide HU, if_neg (ne_of_size (by omega))])
      have x1 := notE b1
      clear HU b1
      go_wp2_with fail
      refine (unhide C12 _ _ hsz3).mono ?_
      rintro e w5 ⟨rfl, n5, hw5⟩
      have hq5 : ∃ n, w5 = w1.drewN n := by rw [hw5]; exact Qn hq4 _
      clear hw5 hq4
      cases ho : expOK (restB r0) with
      | false =>
        have HR := hide (dec_no s (by rw [unhide HV, exp_none ho]; rfl))
        go_wp2
        go_ret3
        exact ⟨unhide HR, hq5⟩
      | true =>
        have HE := hide (exp_some ho)
        have el := expB_le (restB r0)
        go_wp2_with fail
        refine (unhide C15 _ _).mono ?_
        rintro e w6 ⟨rfl, rfl⟩
        have tl := trimB_le (digB r0)
        by_cases tz : (trimB (digB r0)).size = 0
        · have TZ : Hid (trimLeftB (digB r0).data.toList 48 = []) := hide (by rw [← trimB_data]; exact nil_of_size tz)
          have tq := isE tz
          go_wp2
          go_ret3
          refine ⟨dec_ret s _ _ ?_, hq5⟩
          rw [unhide HV, unhide HE, Option.map_some]
          refine congrArg some (Prod.ext ?_ ?_)
          · simp [numL, unhide TZ]
          · exact dec_empty _
        · have TZ : Hid (¬ trimLeftB (digB r0).data.toList 48 = []) := hide (by rw [← trimB_data]; exact ne_of_size (by omega))
          have tq := notE tz
          go_wp2
          go_ret3
          refine ⟨dec_ret s _ _ ?_, hq5⟩
          rw [unhide HV, unhide HE, Option.map_some]
          refine congrArg some (Prod.ext ?_ ?_)
          · simp [numL, trimB_data, unhide TZ]
          · exact dec_empty _

set_option maxHeartbeats 20000000 in
theorem dec_plus (s r0 : ByteArray) (w : World) (hs : s.size ≤ 1048577) (p1 : hasPrefix s.data.toList [45] = false) (p2 : hasPrefix s.data.toList [43] = true) (hx : decL s.data.toList = decU false r0.data.toList) (hr : r0 = s.extract 1 s.size) (hz : r0.size + 1 = s.size) :
    Calls Tryd.prog 11 #[.string s] w fun e w' => e = .returned (.tuple #[.string (numB s), .bool (intB s), .bool (okB s)]) ∧ ∃ n, w' = w.drewN n := by
  have C13 := hide Tryd.strings_HasPrefix
  have C14 := hide digits_any
  have C12 := hide exponent_any
  have C15 := hide trim_any
  have sl1 : ∀ wx, (Instr.slice 9 (.string s) (some (.int .i64 1)) none none).run Tryd.prog wx = .ok (.string r0) wx := fun wx => by
    rw [hr]; exact slice_from s 1 (by omega) wx
  have HX := hide hx
  have P1 : Hid (hasPrefix s.data.toList (ByteArray.mk #[45]).data.toList = false) := hide p1
  have P2 : Hid (hasPrefix s.data.toList (ByteArray.mk #[43]).data.toList = true) := hide p2
  have hsz : r0.size ≤ 1048577 := by omega
  clear hx hr p1 p2
  go_enter Tryd.func11, Tryd.ntmps11
  go_wp2_with fail
  refine (unhide C13 _ _ _).mono ?_
  rintro e w1 ⟨rfl, rfl⟩
  rw [unhide P1]
  go_wp2_with fail
  refine (unhide C13 _ _ _).mono ?_
  rintro e w1 ⟨rfl, rfl⟩
  rw [unhide P2]
  go_wp2_with fail
  clear sl1 P1 P2
  refine (unhide C14 _ _ hsz).mono ?_
  rintro e w2 ⟨rfl, n2, hw2⟩
  have hq2 : ∃ n, w2 = w1.drewN n := by rw [hw2]; exact Qn (Q0 _) _
  clear hw2
  have dl := digB_le r0
  have rl := restB_le r0
  go_wp2_with fail
  refine (unhide C13 _ _ _).mono ?_
  rintro e w3 ⟨rfl, rfl⟩
  cases hp : hasPrefix (restB r0).data.toList (ByteArray.mk #[46]).data.toList with
  | true =>
    obtain ⟨r2, e2, hr2, hz2⟩ := (prefix_iff (restB r0) 46).1 hp
    have HU : Hid (decL s.data.toList = if (digB r0).data.toList = [] ∧ (digB r2).data.toList = [] then none else (expOf (restB r2).data.toList).map fun e => (numL false (digB r0).data.toList (digB r2).data.toList e, false)) := hide (by rw [unhide HX]; exact tail_point false _ (restB r0) r2 e2)
    have sl2 : ∀ wx, (Instr.slice 9 (.string (restB r0)) (some (.int .i64 1)) none none).run Tryd.prog wx = .ok (.string r2) wx := fun wx => by
      rw [hr2]; exact slice_from (restB r0) 1 (by omega) wx
    have hsz2 : r2.size ≤ 1048577 := by omega
    clear e2 hr2 hp HX
    go_wp2_with fail
    clear sl2
    refine (unhide C14 _ _ hsz2).mono ?_
    rintro e w4 ⟨rfl, n4, hw4⟩
    have hq4 : ∃ n, w4 = w1.drewN n := by rw [hw4]; exact Qn hq2 _
    have dl2 := digB_le r2
    have rl2 := restB_le r2
    have hsz3 : (restB r2).size ≤ 1048577 := by omega
    clear hw4 hq2
    by_cases b1 : (digB r0).size = 0 ∧ (digB r2).size = 0
    · have HR := hide (dec_no s (by rw [unhide HU, if_pos ⟨nil_of_size b1.1, nil_of_size b1.2⟩]))
      obtain ⟨b2, b3⟩ := b1
      have x1 := isE b2
      have x2 := isE b3
      clear b2 b3 HU
      go_wp2
      go_ret3
      exact ⟨unhide HR, hq4⟩
    · have HV : Hid (decL s.data.toList = (expOf (restB r2).data.toList).map fun e => (numL false (digB r0).data.toList (digB r2).data.toList e, false)) := hide (by
        rw [unhide HU, if_neg]
        rintro ⟨a, b⟩
        exact b1 ⟨by rw [size_eq, a]; rfl, by rw [size_eq, b]; rfl⟩)
      clear HU
      by_cases wz : (digB r0).size = 0
      · have fz0 : ¬ (digB r2).size = 0 := fun x => b1 ⟨wz, x⟩
        have x1 := isE wz
        have x2 := notE fz0
        clear b1
        go_wp2_with fail
        refine (unhide C12 _ _ hsz3).mono ?_
        rintro e w5 ⟨rfl, n5, hw5⟩
        have hq5 : ∃ n, w5 = w1.drewN n := by rw [hw5]; exact Qn hq4 _
        clear hw5 hq4
        cases ho : expOK (restB r2) with
        | false =>
          have HR := hide (dec_no s (by rw [unhide HV, exp_none ho]; rfl))
          go_wp2
          go_ret3
          exact ⟨unhide HR, hq5⟩
        | true =>
          have HE := hide (exp_some ho)
          have el := expB_le (restB r2)
          go_wp2_with fail
          refine (unhide C15 _ _).mono ?_
          rintro e w6 ⟨rfl, rfl⟩
          have tl := trimB_le (digB r0)
          have tz : (trimB (digB r0)).size = 0 := by omega
          have TZ : Hid (trimLeftB (digB r0).data.toList 48 = []) := hide (by rw [← trimB_data]; exact nil_of_size tz)
          have tq := isE tz
          have FZ : Hid (¬ (digB r2).data.toList = []) := hide (ne_of_size (by omega))
          go_wp2
          go_ret3
          refine ⟨dec_ret s _ _ ?_, hq5⟩
          rw [unhide HV, unhide HE, Option.map_some]
          simp [numL, unhide TZ, unhide FZ]
      · have x1 := notE wz
        clear b1
        go_wp2_with fail
        refine (unhide C12 _ _ hsz3).mono ?_
        rintro e w5 ⟨rfl, n5, hw5⟩
        have hq5 : ∃ n, w5 = w1.drewN n := by rw [hw5]; exact Qn hq4 _
        clear hw5 hq4
        cases ho : expOK (restB r2) with
        | false =>
          have HR := hide (dec_no s (by rw [unhide HV, exp_none ho]; rfl))
          go_wp2
          go_ret3
          exact ⟨unhide HR, hq5⟩
        | true =>
          have HE := hide (exp_some ho)
          have el := expB_le (restB r2)
          go_wp2_with fail
          refine (unhide C15 _ _).mono ?_
          rintro e w6 ⟨rfl, rfl⟩
          have tl := trimB_le (digB r0)
          by_cases tz : (trimB (digB r0)).size = 0
          · have TZ : Hid (trimLeftB (digB r0).data.toList 48 = []) := hide (by rw [← trimB_data]; exact nil_of_size tz)
            have tq := isE tz
            by_cases fz : (digB r2).size = 0
            · have FZ : Hid ((digB r2).data.toList = []) := hide (nil_of_size fz)
              have fq := isE fz
              go_wp2
              go_ret3
              refine ⟨dec_ret s _ _ ?_, hq5⟩
              rw [unhide HV, unhide HE, Option.map_some]
              simp [numL, unhide TZ, unhide FZ]
            · have FZ : Hid (¬ (digB r2).data.toList = []) := hide (ne_of_size (by omega))
              have fq := notE fz
              go_wp2
              go_ret3
              refine ⟨dec_ret s _ _ ?_, hq5⟩
              rw [unhide HV, unhide HE, Option.map_some]
              simp [numL, unhide TZ, unhide FZ]
          · have TZ : Hid (¬ trimLeftB (digB r0).data.toList 48 = []) := hide (by rw [← trimB_data]; exact ne_of_size (by omega))
            have tq := notE tz
            by_cases fz : (digB r2).size = 0
            · have FZ : Hid ((digB r2).data.toList = []) := hide (nil_of_size fz)
              have fq := isE fz
              go_wp2
              go_ret3
              refine ⟨dec_ret s _ _ ?_, hq5⟩
              rw [unhide HV, unhide HE, Option.map_some]
              simp [numL, trimB_data, unhide TZ, unhide FZ]
            · have FZ : Hid (¬ (digB r2).data.toList = []) := hide (ne_of_size (by omega))
              have fq := notE fz
              go_wp2
              go_ret3
              refine ⟨dec_ret s _ _ ?_, hq5⟩
              rw [unhide HV, unhide HE, Option.map_some]
              simp [numL, trimB_data, unhide TZ, unhide FZ]
  | false =>
    have HU : Hid (decL s.data.toList = if (digB r0).data.toList = [] then none else (expOf (restB r0).data.toList).map fun e => (numL false (digB r0).data.toList [] e, decide (e = []))) := hide (by rw [unhide HX]; exact tail_none false _ (restB r0) hp)
    have hsz3 : (restB r0).size ≤ 1048577 := by omega
    have hq4 := hq2
    clear hp HX hq2
    by_cases b1 : (digB r0).size = 0
    · have HR := hide (dec_no s (by rw [unhide HU, if_pos (nil_of_size b1)]))
      have x1 := isE b1
      clear b1 HU
      go_wp2
      go_ret3
      exact ⟨unhide HR, hq4⟩
    · have HV : Hid (decL s.data.toList = (expOf (restB r0).data.toList).map fun e => (numL false (digB r0).data.toList [] e, decide (e = []))) := hide (by
        rw [unhide HU, if_neg (ne_of_size (by omega))])
      have x1 := notE b1
      clear HU b1
      go_wp2_with fail
      refine (unhide C12 _ _ hsz3).mono ?_
      rintro e w5 ⟨rfl, n5, hw5⟩
      have hq5 : ∃ n, w5 = w1.drewN n := by rw [hw5]; exact Qn hq4 _
      clear hw5 hq4
      cases ho : expOK (restB r0) with
      | false =>
        have HR := hide (dec_no s (by rw [unhide HV, exp_none ho]; rfl))
        go_wp2
        go_ret3
        exact ⟨unhide HR, hq5⟩
      | true =>
        have HE := hide (exp_some ho)
        have el := expB_le (restB r0)
        go_wp2_with fail
        refine (unhide C15 _ _).mono ?_
        rintro e w6 ⟨rfl, rfl⟩
        have tl := trimB_le (digB r0)
        by_cases tz : (trimB (digB r0)).size = 0
        · have TZ : Hid (trimLeftB (digB r0).data.toList 48 = []) := hide (by rw [← trimB_data]; exact nil_of_size tz)
          have tq := isE tz
          go_wp2
          go_ret3
          refine ⟨dec_ret s _ _ ?_, hq5⟩
          rw [unhide HV, unhide HE, Option.map_some]
          refine congrArg some (Prod.ext ?_ ?_)
          · simp [numL, unhide TZ]
          · exact dec_empty _
        · have TZ : Hid (¬ trimLeftB (digB r0).data.toList 48 = []) := hide (by rw [← trimB_data]; exact ne_of_size (by omega))
          have tq := notE tz
          go_wp2
          go_ret3
          refine ⟨dec_ret s _ _ ?_, hq5⟩
          rw [unhide HV, unhide HE, Option.map_some]
          refine congrArg some (Prod.ext ?_ ?_)
          · simp [numL, trimB_data, unhide TZ]
          · exact dec_empty _

set_option maxHeartbeats 20000000 in
theorem dec_bare (s : ByteArray) (w : World) (hs : s.size ≤ 1048577) (p1 : hasPrefix s.data.toList [45] = false) (p2 : hasPrefix s.data.toList [43] = false) (hx : decL s.data.toList = decU false s.data.toList) :
    Calls Tryd.prog 11 #[.string s] w fun e w' => e = .returned (.tuple #[.string (numB s), .bool (intB s), .bool (okB s)]) ∧ ∃ n, w' = w.drewN n := by
  have C13 := hide Tryd.strings_HasPrefix
  have C14 := hide digits_any
  have C12 := hide exponent_any
  have C15 := hide trim_any
  have HX := hide hx
  have P1 : Hid (hasPrefix s.data.toList (ByteArray.mk #[45]).data.toList = false) := hide p1
  have P2 : Hid (hasPrefix s.data.toList (ByteArray.mk #[43]).data.toList = false) := hide p2
  clear hx p1 p2
  go_enter Tryd.func11, Tryd.ntmps11
  go_wp2_with fail
  refine (unhide C13 _ _ _).mono ?_
  rintro e w1 ⟨rfl, rfl⟩
  rw [unhide P1]
  go_wp2_with fail
  refine (unhide C13 _ _ _).mono ?_
  rintro e w1 ⟨rfl, rfl⟩
  rw [unhide P2]
  go_wp2_with fail
  clear P1 P2
  refine (unhide C14 _ _ hs).mono ?_
  rintro e w2 ⟨rfl, n2, hw2⟩
  have hq2 : ∃ n, w2 = w1.drewN n := by rw [hw2]; exact Qn (Q0 _) _
  clear hw2
  have dl := digB_le s
  have rl := restB_le s
  go_wp2_with fail
  refine (unhide C13 _ _ _).mono ?_
  rintro e w3 ⟨rfl, rfl⟩
  cases hp : hasPrefix (restB s).data.toList (ByteArray.mk #[46]).data.toList with
  | true =>
    obtain ⟨r2, e2, hr2, hz2⟩ := (prefix_iff (restB s) 46).1 hp
    have HU : Hid (decL s.data.toList = if (digB s).data.toList = [] ∧ (digB r2).data.toList = [] then none else (expOf (restB r2).data.toList).map fun e => (numL false (digB s).data.toList (digB r2).data.toList e, false)) := hide (by rw [unhide HX]; exact tail_point false _ (restB s) r2 e2)
    have sl2 : ∀ wx, (Instr.slice 9 (.string (restB s)) (some (.int .i64 1)) none none).run Tryd.prog wx = .ok (.string r2) wx := fun wx => by
      rw [hr2]; exact slice_from (restB s) 1 (by omega) wx
    have hsz2 : r2.size ≤ 1048577 := by omega
    clear e2 hr2 hp HX
    go_wp2_with fail
    clear sl2
    refine (unhide C14 _ _ hsz2).mono ?_
    rintro e w4 ⟨rfl, n4, hw4⟩
    have hq4 : ∃ n, w4 = w1.drewN n := by rw [hw4]; exact Qn hq2 _
    have dl2 := digB_le r2
    have rl2 := restB_le r2
    have hsz3 : (restB r2).size ≤ 1048577 := by omega
    clear hw4 hq2
    by_cases b1 : (digB s).size = 0 ∧ (digB r2).size = 0
    · have HR := hide (dec_no s (by rw [unhide HU, if_pos ⟨nil_of_size b1.1, nil_of_size b1.2⟩]))
      obtain ⟨b2, b3⟩ := b1
      have x1 := isE b2
      have x2 := isE b3
      clear b2 b3 HU
      go_wp2
      go_ret3
      exact ⟨unhide HR, hq4⟩
    · have HV : Hid (decL s.data.toList = (expOf (restB r2).data.toList).map fun e => (numL false (digB s).data.toList (digB r2).data.toList e, false)) := hide (by
        rw [unhide HU, if_neg]
        rintro ⟨a, b⟩
        exact b1 ⟨by rw [size_eq, a]; rfl, by rw [size_eq, b]; rfl⟩)
      clear HU
      by_cases wz : (digB s).size = 0
      · have fz0 : ¬ (digB r2).size = 0 := fun x => b1 ⟨wz, x⟩
        have x1 := isE wz
        have x2 := notE fz0
        clear b1
        go_wp2_with fail
        refine (unhide C12 _ _ hsz3).mono ?_
        rintro e w5 ⟨rfl, n5, hw5⟩
        have hq5 : ∃ n, w5 = w1.drewN n := by rw [hw5]; exact Qn hq4 _
        clear hw5 hq4
        cases ho : expOK (restB r2) with
        | false =>
          have HR := hide (dec_no s (by rw [unhide HV, exp_none ho]; rfl))
          go_wp2
          go_ret3
          exact ⟨unhide HR, hq5⟩
        | true =>
          have HE := hide (exp_some ho)
          have el := expB_le (restB r2)
          go_wp2_with fail
          refine (unhide C15 _ _).mono ?_
          rintro e w6 ⟨rfl, rfl⟩
          have tl := trimB_le (digB s)
          have tz : (trimB (digB s)).size = 0 := by omega
          have TZ : Hid (trimLeftB (digB s).data.toList 48 = []) := hide (by rw [← trimB_data]; exact nil_of_size tz)
          have tq := isE tz
          have FZ : Hid (¬ (digB r2).data.toList = []) := hide (ne_of_size (by omega))
          go_wp2
          go_ret3
          refine ⟨dec_ret s _ _ ?_, hq5⟩
          rw [unhide HV, unhide HE, Option.map_some]
          simp [numL, unhide TZ, unhide FZ]
      · have x1 := notE wz
        clear b1
        go_wp2_with fail
        refine (unhide C12 _ _ hsz3).mono ?_
        rintro e w5 ⟨rfl, n5, hw5⟩
        have hq5 : ∃ n, w5 = w1.drewN n := by rw [hw5]; exact Qn hq4 _
        clear hw5 hq4
        cases ho : expOK (restB r2) with
        | false =>
          have HR := hide (dec_no s (by rw [unhide HV, exp_none ho]; rfl))
          go_wp2
          go_ret3
          exact ⟨unhide HR, hq5⟩
        | true =>
          have HE := hide (exp_some ho)
          have el := expB_le (restB r2)
          go_wp2_with fail
          refine (unhide C15 _ _).mono ?_
          rintro e w6 ⟨rfl, rfl⟩
          have tl := trimB_le (digB s)
          by_cases tz : (trimB (digB s)).size = 0
          · have TZ : Hid (trimLeftB (digB s).data.toList 48 = []) := hide (by rw [← trimB_data]; exact nil_of_size tz)
            have tq := isE tz
            by_cases fz : (digB r2).size = 0
            · have FZ : Hid ((digB r2).data.toList = []) := hide (nil_of_size fz)
              have fq := isE fz
              go_wp2
              go_ret3
              refine ⟨dec_ret s _ _ ?_, hq5⟩
              rw [unhide HV, unhide HE, Option.map_some]
              simp [numL, unhide TZ, unhide FZ]
            · have FZ : Hid (¬ (digB r2).data.toList = []) := hide (ne_of_size (by omega))
              have fq := notE fz
              go_wp2
              go_ret3
              refine ⟨dec_ret s _ _ ?_, hq5⟩
              rw [unhide HV, unhide HE, Option.map_some]
              simp [numL, unhide TZ, unhide FZ]
          · have TZ : Hid (¬ trimLeftB (digB s).data.toList 48 = []) := hide (by rw [← trimB_data]; exact ne_of_size (by omega))
            have tq := notE tz
            by_cases fz : (digB r2).size = 0
            · have FZ : Hid ((digB r2).data.toList = []) := hide (nil_of_size fz)
              have fq := isE fz
              go_wp2
              go_ret3
              refine ⟨dec_ret s _ _ ?_, hq5⟩
              rw [unhide HV, unhide HE, Option.map_some]
              simp [numL, trimB_data, unhide TZ, unhide FZ]
            · have FZ : Hid (¬ (digB r2).data.toList = []) := hide (ne_of_size (by omega))
              have fq := notE fz
              go_wp2
              go_ret3
              refine ⟨dec_ret s _ _ ?_, hq5⟩
              rw [unhide HV, unhide HE, Option.map_some]
              simp [numL, trimB_data, unhide TZ, unhide FZ]
  | false =>
    have HU : Hid (decL s.data.toList = if (digB s).data.toList = [] then none else (expOf (restB s).data.toList).map fun e => (numL false (digB s).data.toList [] e, decide (e = []))) := hide (by rw [unhide HX]; exact tail_none false _ (restB s) hp)
    have hsz3 : (restB s).size ≤ 1048577 := by omega
    have hq4 := hq2
    clear hp HX hq2
    by_cases b1 : (digB s).size = 0
    · have HR := hide (dec_no s (by rw [unhide HU, if_pos (nil_of_size b1)]))
      have x1 := isE b1
      clear b1 HU
      go_wp2
      go_ret3
      exact ⟨unhide HR, hq4⟩
    · have HV : Hid (decL s.data.toList = (expOf (restB s).data.toList).map fun e => (numL false (digB s).data.toList [] e, decide (e = []))) := hide (by
        rw [unhide HU, if_neg (ne_of_size (by omega))])
      have x1 := notE b1
      clear HU b1
      go_wp2_with fail
      refine (unhide C12 _ _ hsz3).mono ?_
      rintro e w5 ⟨rfl, n5, hw5⟩
      have hq5 : ∃ n, w5 = w1.drewN n := by rw [hw5]; exact Qn hq4 _
      clear hw5 hq4
      cases ho : expOK (restB s) with
      | false =>
        have HR := hide (dec_no s (by rw [unhide HV, exp_none ho]; rfl))
        go_wp2
        go_ret3
        exact ⟨unhide HR, hq5⟩
      | true =>
        have HE := hide (exp_some ho)
        have el := expB_le (restB s)
        go_wp2_with fail
        refine (unhide C15 _ _).mono ?_
        rintro e w6 ⟨rfl, rfl⟩
        have tl := trimB_le (digB s)
        by_cases tz : (trimB (digB s)).size = 0
        · have TZ : Hid (trimLeftB (digB s).data.toList 48 = []) := hide (by rw [← trimB_data]; exact nil_of_size tz)
          have tq := isE tz
          go_wp2
          go_ret3
          refine ⟨dec_ret s _ _ ?_, hq5⟩
          rw [unhide HV, unhide HE, Option.map_some]
          refine congrArg some (Prod.ext ?_ ?_)
          · simp [numL, unhide TZ]
          · exact dec_empty _
        · have TZ : Hid (¬ trimLeftB (digB s).data.toList 48 = []) := hide (by rw [← trimB_data]; exact ne_of_size (by omega))
          have tq := notE tz
          go_wp2
          go_ret3
          refine ⟨dec_ret s _ _ ?_, hq5⟩
          rw [unhide HV, unhide HE, Option.map_some]
          refine congrArg some (Prod.ext ?_ ?_)
          · simp [numL, trimB_data, unhide TZ]
          · exact dec_empty _

theorem decimal_any (s : ByteArray) (w : World) (hs : s.size ≤ 1048577) :
    Calls Tryd.prog 11 #[.string s] w fun e w' => e = .returned (.tuple #[.string (numB s), .bool (intB s), .bool (okB s)]) ∧ ∃ n, w' = w.drewN n := by
  rcases sign_cases s with ⟨r0, p1, hx, hr, hz⟩ | ⟨r0, p1, p2, hx, hr, hz⟩ | ⟨p1, p2, hx⟩
  · exact dec_minus s r0 w hs p1 hx hr hz
  · exact dec_plus s r0 w hs p1 p2 hx hr hz
  · exact dec_bare s w hs p1 p2 hx

end Go.Proofs.Qxb6603916aDoor
