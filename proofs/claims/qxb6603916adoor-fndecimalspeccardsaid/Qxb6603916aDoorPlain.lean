/-
  THE PLAIN LAWS of seat b6603916aD: lists of bytes alone, no Go. 'expOf' what exponentOf answers, 'decL' what decimal answers, 'run' and 'fin' the law's own automaton.
-/
import Derived.Lib.TrimByte
namespace Go.Proofs.Qxb6603916aDoor.Plain
open Go.Lib

def dig (c : UInt8) : Bool := decide (48 ≤ c.toNat) && decide (c.toNat ≤ 57)

/-- exponentOf: the exponent, or none where it is refused. -/
def expTail (r : List UInt8) : Option (List UInt8) :=
  if r.takeWhile dig = [] ∨ r.dropWhile dig ≠ [] then none else some (r.takeWhile dig)
def expOf : List UInt8 → Option (List UInt8)
  | [] => some []
  | c :: r => if c = 101 ∨ c = 69 then
      (match r with
      | [] => none
      | d :: r' => if d = 43 ∨ d = 45 then (expTail r').map fun t => 101 :: d :: t else (expTail r).map fun t => 101 :: t)
    else none

theorem expOf_e (c : UInt8) (r : List UInt8) (h : c = 101 ∨ c = 69) : expOf (c :: r) = (match r with
      | [] => none
      | d :: r' => if d = 43 ∨ d = 45 then (expTail r').map fun t => 101 :: d :: t else (expTail r).map fun t => 101 :: t) := by
  show (if c = 101 ∨ c = 69 then _ else none) = _
  rw [if_pos h]
theorem expOf_no (c : UInt8) (r : List UInt8) (h : ¬ (c = 101 ∨ c = 69)) : expOf (c :: r) = none := by
  show (if c = 101 ∨ c = 69 then _ else none) = _
  rw [if_neg h]

def numL (neg : Bool) (w frac e : List UInt8) : List UInt8 :=
  (if neg then [45] else []) ++ (if trimLeftB w 48 = [] then [48] else trimLeftB w 48) ++ (if frac = [] then [] else 46 :: frac) ++ e

/-- What is behind the whole digits w. -/
def tailL (neg : Bool) (w r1 : List UInt8) : Option (List UInt8 × Bool) :=
  match r1 with
  | [] => if w = [] then none else some (numL neg w [] [], true)
  | c :: r => if c = 46 then
      (if w = [] ∧ r.takeWhile dig = [] then none else (expOf (r.dropWhile dig)).map fun e => (numL neg w (r.takeWhile dig) e, false))
    else (if w = [] then none else (expOf r1).map fun e => (numL neg w [] e, decide (e = [])))

def decU (neg : Bool) (r : List UInt8) : Option (List UInt8 × Bool) := tailL neg (r.takeWhile dig) (r.dropWhile dig)
/-- decimal: the number and 'integer', or none where it is refused. -/
def decL : List UInt8 → Option (List UInt8 × Bool)
  | [] => decU false []
  | c :: r => if c = 45 then decU true r else if c = 43 then decU false r else decU false (c :: r)

theorem decL_cons (c : UInt8) (r : List UInt8) : decL (c :: r) = if c = 45 then decU true r else if c = 43 then decU false r else decU false (c :: r) := rfl

/-! ### The law's automaton -/
structure St where
  q : Nat
  neg : Bool
  point : Bool
  hasExp : Bool
  w : List UInt8
  frac : List UInt8
  exp : List UInt8

def st0 : St := { q := 0, neg := false, point := false, hasExp := false, w := [], frac := [], exp := [] }

def step (st : St) (c : UInt8) : Option St :=
  if st.q ≤ 1 then
    if st.q = 0 ∧ c = 45 then some { st with neg := true, q := 1 }
    else if st.q = 0 ∧ c = 43 then some { st with q := 1 }
    else if dig c = true then some { st with w := st.w ++ [c], q := 2 }
    else if c = 46 then some { st with point := true, q := 3 }
    else none
  else if st.q = 2 then
    if dig c = true then some { st with w := st.w ++ [c] }
    else if c = 46 then some { st with point := true, q := 3 }
    else if c = 101 ∨ c = 69 then some { st with hasExp := true, q := 5 }
    else none
  else if st.q = 3 then
    if dig c = true then some { st with frac := st.frac ++ [c] }
    else if c = 101 ∨ c = 69 then some { st with hasExp := true, q := 5 }
    else none
  else if st.q = 5 then
    if c = 43 ∨ c = 45 then some { st with exp := st.exp ++ [c], q := 6 }
    else if dig c = true then some { st with exp := st.exp ++ [c], q := 7 }
    else none
  else if dig c = true then some { st with exp := st.exp ++ [c], q := 7 } else none

def run : List UInt8 → St → Option St
  | [], st => some st
  | c :: r, st => match step st c with
    | none => none
    | some st' => run r st'

def fin (st : St) : Option (List UInt8 × Bool) :=
  if (st.w = [] ∧ st.frac = []) ∨ st.q = 5 ∨ st.q = 6 then none
  else some (numL st.neg st.w st.frac (if st.hasExp then 101 :: st.exp else []), !st.point && !st.hasExp)
def modelL (l : List UInt8) : Option (List UInt8 × Bool) := (run l st0).bind fin

theorem run_cons (c : UInt8) (r : List UInt8) (st : St) : run (c :: r) st = (step st c).bind (run r) := by
  conv => lhs; unfold run
  cases step st c <;> rfl

theorem not_dig_e {c : UInt8} (h : c = 101 ∨ c = 69) : dig c = false := by rcases h with rfl | rfl <;> decide
theorem not_dig_dot : dig 46 = false := by decide
theorem not_dig_sign {c : UInt8} (h : c = 43 ∨ c = 45) : dig c = false := by rcases h with rfl | rfl <;> decide

/-- The exponent's digits. -/
theorem run67 : ∀ (l : List UInt8) (st : St), (st.q = 6 ∨ st.q = 7) → run l st = if l.all dig = true then some { st with exp := st.exp ++ l, q := if l = [] then st.q else 7 } else none
  | [], st, _ => by simp [run]
  | c :: r, st, h => by
    rw [run_cons]
    have h1 : ¬ st.q ≤ 1 := by omega
    have h2 : ¬ st.q = 2 := by omega
    have h3 : ¬ st.q = 3 := by omega
    have h5 : ¬ st.q = 5 := by omega
    unfold step
    rw [if_neg h1, if_neg h2, if_neg h3, if_neg h5]
    by_cases hd : dig c = true
    · rw [if_pos hd, Option.bind_some, run67 r _ (.inr rfl)]
      by_cases ha : r.all dig = true
      · simp [ha, hd]
      · simp [ha]
    · rw [if_neg hd]
      simp [hd]

theorem all_iff : ∀ (r : List UInt8), r.all dig = true ↔ r.dropWhile dig = []
  | [] => by simp
  | c :: r => by
    by_cases h : dig c = true
    · rw [List.all_cons, List.dropWhile_cons, if_pos h, h, Bool.true_and]; exact all_iff r
    · rw [List.all_cons, List.dropWhile_cons, if_neg h]; simp [h]
theorem takeWhile_all {r : List UInt8} (h : r.dropWhile dig = []) : r.takeWhile dig = r := by
  have := List.takeWhile_append_dropWhile (p := dig) (l := r)
  rw [h, List.append_nil] at this; exact this

/-- THE EXPONENT: from behind the 'e'. -/
theorem run5 (r : List UInt8) (st : St) (hq : st.q = 5) (he : st.exp = []) (hh : st.hasExp = true) (hw : ¬ (st.w = [] ∧ st.frac = [])) :
    (run r st).bind fin = (match r with
      | [] => none
      | d :: r' => if d = 43 ∨ d = 45 then (expTail r').map fun t => 101 :: d :: t else (expTail r).map fun t => 101 :: t).map fun e => (numL st.neg st.w st.frac e, false) := by
  cases r with
  | nil => simp [run, fin, hq]
  | cons d r' =>
    rw [run_cons]
    have h1 : ¬ st.q ≤ 1 := by omega
    have h2 : ¬ st.q = 2 := by omega
    have h3 : ¬ st.q = 3 := by omega
    unfold step
    rw [if_neg h1, if_neg h2, if_neg h3, if_pos hq]
    by_cases hs : d = 43 ∨ d = 45
    · rw [if_pos hs, Option.bind_some, run67 r' _ (.inl rfl)]
      simp only [if_pos hs]
      unfold expTail
      by_cases ha : r'.all dig = true
      · rw [if_pos ha]
        have hdrop := (all_iff r').1 ha
        rw [takeWhile_all hdrop]
        by_cases hn : r' = []
        · subst hn; simp [fin]
        · rw [if_neg (show ¬ (r' = [] ∨ r'.dropWhile dig ≠ []) from fun x => x.elim hn (fun y => y hdrop))]
          simp [fin, hn, he, hh, hw]
      · rw [if_neg ha]
        have : r'.dropWhile dig ≠ [] := fun e => ha ((all_iff r').2 e)
        rw [if_pos (.inr this)]; rfl
    · rw [if_neg hs]
      simp only [if_neg hs]
      unfold expTail
      by_cases hd : dig d = true
      · rw [if_pos hd, Option.bind_some, run67 r' _ (.inr rfl)]
        have ht : (d :: r').takeWhile dig ≠ [] := by simp [hd]
        by_cases ha : r'.all dig = true
        · rw [if_pos ha]
          have ha' : (d :: r').all dig = true := by simp [hd, ha]
          have hdrop := (all_iff _).1 ha'
          rw [takeWhile_all hdrop] at ht ⊢
          rw [if_neg (show ¬ ((d :: r') = [] ∨ (d :: r').dropWhile dig ≠ []) from fun x => x.elim ht (fun y => y hdrop))]
          simp [fin, he, hh, hw]
        · rw [if_neg ha]
          have : (d :: r').dropWhile dig ≠ [] := fun e => by
            have := (all_iff _).2 e
            rw [List.all_cons, hd, Bool.true_and] at this
            exact ha this
          rw [if_pos (.inr this)]; rfl
      · rw [if_neg hd]
        have : (d :: r').takeWhile dig = [] := by simp [hd]
        rw [if_pos (.inl this)]; rfl

/-- .. where the digits before it are none: refused whatever follows. -/
theorem fin_none_of {st : St} (h : st.w = [] ∧ st.frac = []) : fin st = none := by unfold fin; rw [if_pos (.inl h)]
theorem run57_none : ∀ (r : List UInt8) (st : St), (st.q = 5 ∨ st.q = 6 ∨ st.q = 7) → st.w = [] → st.frac = [] → (run r st).bind fin = none
  | [], st, _, h1, h2 => by simp [run, fin_none_of ⟨h1, h2⟩]
  | c :: r, st, hq, h1, h2 => by
    rw [run_cons]
    have n1 : ¬ st.q ≤ 1 := by omega
    have n2 : ¬ st.q = 2 := by omega
    have n3 : ¬ st.q = 3 := by omega
    unfold step
    rw [if_neg n1, if_neg n2, if_neg n3]
    split
    · split
      · exact run57_none r _ (.inr (.inl rfl)) h1 h2
      · split
        · exact run57_none r _ (.inr (.inr rfl)) h1 h2
        · rfl
    · split
      · exact run57_none r _ (.inr (.inr rfl)) h1 h2
      · rfl

/-- THE FRACTION. -/
theorem run3 : ∀ (l : List UInt8) (st : St), st.q = 3 → run l st = (match l.dropWhile dig with
    | [] => some { st with frac := st.frac ++ l.takeWhile dig }
    | c :: r => if c = 101 ∨ c = 69 then run r { st with frac := st.frac ++ l.takeWhile dig, hasExp := true, q := 5 } else none)
  | [], st, _ => by simp [run]
  | c :: r, st, h => by
    rw [run_cons]
    have h1 : ¬ st.q ≤ 1 := by omega
    have h2 : ¬ st.q = 2 := by omega
    unfold step
    rw [if_neg h1, if_neg h2, if_pos h]
    by_cases hd : dig c = true
    · rw [if_pos hd, Option.bind_some, run3 r { st with frac := st.frac ++ [c] } h]
      simp [hd]
    · rw [if_neg hd]
      simp only [List.dropWhile_cons, List.takeWhile_cons, hd, Bool.false_eq_true, if_false, List.append_nil]
      by_cases he : c = 101 ∨ c = 69
      · rw [if_pos he, if_pos he]; rfl
      · rw [if_neg he, if_neg he]; rfl

/-- THE WHOLE DIGITS. -/
theorem run2 : ∀ (l : List UInt8) (st : St), st.q = 2 → run l st = (match l.dropWhile dig with
    | [] => some { st with w := st.w ++ l.takeWhile dig }
    | c :: r => if c = 46 then run r { st with w := st.w ++ l.takeWhile dig, point := true, q := 3 }
      else if c = 101 ∨ c = 69 then run r { st with w := st.w ++ l.takeWhile dig, hasExp := true, q := 5 } else none)
  | [], st, _ => by simp [run]
  | c :: r, st, h => by
    rw [run_cons]
    have h1 : ¬ st.q ≤ 1 := by omega
    unfold step
    rw [if_neg h1, if_pos h]
    by_cases hd : dig c = true
    · rw [if_pos hd, Option.bind_some, run2 r { st with w := st.w ++ [c] } h]
      simp [hd]
    · rw [if_neg hd]
      simp only [List.dropWhile_cons, List.takeWhile_cons, hd, Bool.false_eq_true, if_false, List.append_nil]
      by_cases hp : c = 46
      · rw [if_pos hp, if_pos hp]; rfl
      · rw [if_neg hp, if_neg hp]
        by_cases he : c = 101 ∨ c = 69
        · rw [if_pos he, if_pos he]; rfl
        · rw [if_neg he, if_neg he]; rfl

/-- The fraction and what follows, as decimal has it. -/
theorem frac_tail (r : List UInt8) (st : St) (hq : st.q = 3) (hf : st.frac = []) (he : st.exp = []) (hh : st.hasExp = false) (hp : st.point = true) :
    (run r st).bind fin = if st.w = [] ∧ r.takeWhile dig = [] then none else (expOf (r.dropWhile dig)).map fun e => (numL st.neg st.w (r.takeWhile dig) e, false) := by
  rw [run3 r st hq]
  cases hd : r.dropWhile dig with
  | nil =>
    simp only [Option.bind_some, hf, List.nil_append]
    by_cases h0 : st.w = [] ∧ r.takeWhile dig = []
    · rw [if_pos h0]; exact fin_none_of (st := { st with frac := r.takeWhile dig }) h0
    · rw [if_neg h0]
      have n5 : ¬ ((st.w = [] ∧ r.takeWhile dig = []) ∨ st.q = 5 ∨ st.q = 6) := by
        rintro (h | h | h)
        · exact h0 h
        · omega
        · omega
      simp [fin, expOf, n5, hh, hp]
  | cons c r' =>
    simp only [hf, List.nil_append]
    by_cases hce : c = 101 ∨ c = 69
    · rw [if_pos hce]
      by_cases h0 : st.w = [] ∧ r.takeWhile dig = []
      · rw [if_pos h0]
        exact run57_none r' _ (.inl rfl) h0.1 h0.2
      · rw [if_neg h0, run5 r' { st with frac := r.takeWhile dig, hasExp := true, q := 5 } rfl he rfl h0]
        rw [expOf_e c r' hce]
    · rw [if_neg hce]
      by_cases h0 : st.w = [] ∧ r.takeWhile dig = []
      · rw [if_pos h0]; rfl
      · rw [if_neg h0]
        rw [expOf_no c r' hce]; rfl

/-- FROM BEHIND THE SIGN. -/
theorem run_unsigned (r : List UInt8) (st : St) (hq : st.q ≤ 1) (hns : st.q = 0 → ∀ c r', r = c :: r' → c ≠ 45 ∧ c ≠ 43) (hw : st.w = []) (hf : st.frac = []) (he : st.exp = []) (hh : st.hasExp = false) (hp : st.point = false) :
    (run r st).bind fin = decU st.neg r := by
  unfold decU
  cases r with
  | nil => simp [run, tailL, fin, hw, hf]
  | cons c r' =>
    rw [run_cons]
    unfold step
    have g1 : ¬ (st.q = 0 ∧ c = 45) := fun ⟨a, b⟩ => (hns a c r' rfl).1 b
    have g2 : ¬ (st.q = 0 ∧ c = 43) := fun ⟨a, b⟩ => (hns a c r' rfl).2 b
    rw [if_pos hq, if_neg g1, if_neg g2]
    by_cases hd : dig c = true
    · rw [if_pos hd, Option.bind_some, run2 r' _ rfl]
      simp only [List.takeWhile_cons, List.dropWhile_cons, hd, if_true, hw, List.nil_append, List.singleton_append]
      cases hdr : r'.dropWhile dig with
      | nil => simp [tailL, fin, hh, hp, hf]
      | cons x r'' =>
        simp only [tailL]
        by_cases hx : x = 46
        · rw [if_pos hx, if_pos hx, frac_tail r'' { st with w := c :: r'.takeWhile dig, point := true, q := 3 } rfl hf he hh rfl]
        · rw [if_neg hx, if_neg hx, if_neg (show ¬ c :: r'.takeWhile dig = [] by simp)]
          by_cases hxe : x = 101 ∨ x = 69
          · rw [if_pos hxe, run5 r'' { st with w := c :: r'.takeWhile dig, hasExp := true, q := 5 } rfl he rfl (by simp)]
            rw [expOf_e x r'' hxe]
            simp only [hf]
            cases r'' with
            | nil => rfl
            | cons d r3 =>
              simp only
              by_cases hs : d = 43 ∨ d = 45
              · rw [if_pos hs]; cases expTail r3 <;> simp
              · rw [if_neg hs]; cases expTail (d :: r3) <;> simp
          · rw [if_neg hxe]
            rw [expOf_no x r'' hxe]; rfl
    · rw [if_neg hd]
      have hdf : dig c = false := by simpa using hd
      simp only [List.takeWhile_cons, List.dropWhile_cons, hdf, Bool.false_eq_true, if_false]
      simp only [tailL]
      by_cases hc : c = 46
      · rw [if_pos hc, if_pos hc, Option.bind_some, frac_tail r' { st with point := true, q := 3 } rfl hf he hh rfl]
        simp only [hw]
      · rw [if_neg hc, if_neg hc, if_pos trivial]; rfl

/-- THE FIRST LAW, plain. -/
theorem dec_eq_model (l : List UInt8) : decL l = modelL l := by
  unfold modelL
  cases l with
  | nil => simp [decL, run, decU, tailL, fin, st0]
  | cons c r =>
    rw [decL_cons]
    by_cases h1 : c = 45
    · rw [if_pos h1, run_cons]
      have : step st0 c = some { st0 with neg := true, q := 1 } := by unfold step; simp [st0, h1]
      rw [this, Option.bind_some, run_unsigned r _ (by decide) (fun h => by simp at h) rfl rfl rfl rfl rfl]
    · rw [if_neg h1]
      by_cases h2 : c = 43
      · rw [if_pos h2, run_cons]
        have : step st0 c = some { st0 with q := 1 } := by unfold step; simp [st0, h2]
        rw [this, Option.bind_some, run_unsigned r _ (by decide) (fun h => by simp at h) rfl rfl rfl rfl rfl]
        rfl
      · rw [if_neg h2, run_unsigned (c :: r) st0 (by decide) (fun _ c' r' e => by cases e; exact ⟨h1, h2⟩) rfl rfl rfl rfl rfl]
        rfl

/-- THE SECOND LAW, plain. -/
theorem dec_one (l : List UInt8) (h : ∀ c r, l = c :: r → dig c = false ∧ c ≠ 46) : decL (49 :: l) = (expOf l).map fun e => (49 :: e, decide (e = [])) := by
  rw [decL_cons, if_neg (by decide), if_neg (by decide)]
  unfold decU
  have d1 : dig 49 = true := by decide
  have ht : l.takeWhile dig = [] := by
    cases l with
    | nil => rfl
    | cons c r => simp [(h c r rfl).1]
  have hdr : l.dropWhile dig = l := by
    cases l with
    | nil => rfl
    | cons c r => simp [(h c r rfl).1]
  simp only [List.takeWhile_cons, List.dropWhile_cons, d1, if_true, ht, hdr]
  have hn : ∀ e, numL false [49] [] e = 49 :: e := by intro e; simp [numL, trimLeftB]
  cases l with
  | nil => simp [tailL, hn, expOf]
  | cons c r =>
    simp only [tailL]
    rw [if_neg (h c r rfl).2, if_neg (by simp)]
    simp only [hn]

end Go.Proofs.Qxb6603916aDoor.Plain
