/-
  THE PLAIN LAWS of seat b6603915aD: lists of bytes alone, no Go. 'auto' is the law's own one-pass automaton; 'hostL' what isHostname answers.
-/
import Derived.Lib.SplitLaws
namespace Go.Proofs.Qxb6603915aDoor.Plain
open Go.Lib

def dot : List UInt8 := [46]
def hostB (c : Int) : Bool := (97 ≤ c && c ≤ 122) || (65 ≤ c && c ≤ 90) || (48 ≤ c && c ≤ 57) || c == 45
def hostU (c : UInt8) : Bool := hostB c.toNat

/-- A label as isHostname takes it. -/
def labelOK (l : List UInt8) : Bool := !l.isEmpty && decide (l.length ≤ 63) && !(l.head? == some 45) && !(l.getLast? == some 45) && l.all hostU
def hostL (l : List UInt8) : Bool := !l.isEmpty && decide (l.length ≤ 253) && (split l dot).all labelOK

/-- The automaton: run and the byte before. -/
def auto : List UInt8 → Nat → UInt8 → Bool
  | [], run, prev => decide (0 < run) && decide (run ≤ 63) && !(prev == 45)
  | c :: r, run, prev =>
    if c = 46 then (if run = 0 ∨ 63 < run ∨ prev = 45 then false else auto r 0 46)
    else if hostU c = false then false
    else if run = 0 ∧ c = 45 then false
    else auto r (run + 1) c
def modelL (l : List UInt8) : Bool := !l.isEmpty && decide (l.length ≤ 253) && auto l 0 46

/-- The labels, byte by byte. -/
def sp : List UInt8 → List UInt8 → List (List UInt8)
  | cur, [] => [cur]
  | cur, c :: r => if c = 46 then cur :: sp [] r else sp (cur ++ [c]) r

theorem dot_ne : dot ≠ [] := by simp [dot]

theorem occ_dot (l : List UInt8) (i : Nat) : occAt l dot i = true ↔ l[i]? = some 46 := by
  constructor
  · intro h; exact occAt_head rfl h
  · intro h
    obtain ⟨hi, e⟩ := List.getElem?_eq_some_iff.1 h
    unfold occAt
    rw [List.drop_eq_getElem_cons hi, e]
    simp [dot]

theorem index_dot_none {l : List UInt8} (h : 46 ∉ l) : index l dot = -1 := by
  refine index_none fun j _ => ?_
  cases ho : occAt l dot j with
  | false => rfl
  | true => exact absurd (List.mem_of_getElem? ((occ_dot l j).1 ho)) h

theorem index_dot_hit {cur : List UInt8} (h : 46 ∉ cur) (r : List UInt8) : index (cur ++ 46 :: r) dot = cur.length := by
  refine index_first (by simp) ((occ_dot _ _).2 (by simp)) fun j hj => ?_
  cases ho : occAt (cur ++ 46 :: r) dot j with
  | false => rfl
  | true =>
    have := (occ_dot _ _).1 ho
    rw [List.getElem?_append_left hj] at this
    exact absurd (List.mem_of_getElem? this) h

theorem split_sp : ∀ (l cur : List UInt8), 46 ∉ cur → splitK dot 0 (count (cur ++ l) dot) (cur ++ l) = sp cur l
  | [], cur, h => by
    rw [List.append_nil, count_miss (index_dot_none h)]; rfl
  | c :: r, cur, h => by
    by_cases hc : c = 46
    · subst hc
      have hi := index_dot_hit h r
      rw [count_hit dot_ne hi, show 1 + count ((cur ++ 46 :: r).drop (cur.length + dot.length)) dot = count ((cur ++ 46 :: r).drop (cur.length + dot.length)) dot + 1 by omega]
      have hd : (cur ++ 46 :: r).drop (cur.length + dot.length) = r := by
        rw [show cur ++ 46 :: r = (cur ++ dot) ++ r by simp [dot], show cur.length + dot.length = (cur ++ dot).length by simp, List.drop_left]
      rw [hd]
      unfold splitK
      have n1 : ¬ (index (cur ++ 46 :: r) dot == -1) = true := fun e => by have := beq_iff_eq.1 e; omega
      rw [if_neg n1, hi, Int.toNat_natCast, hd]
      have ih := split_sp r [] (by simp)
      rw [List.nil_append] at ih
      rw [ih]
      conv => rhs; unfold sp
      rw [if_pos rfl, Nat.add_zero, List.take_left]
    · have ih := split_sp r (cur ++ [c]) (by
        intro hm
        rcases List.mem_append.1 hm with hm | hm
        · exact h hm
        · exact hc ((List.mem_singleton.1 hm).symm))
      rw [show cur ++ [c] ++ r = cur ++ c :: r by simp] at ih
      rw [ih]
      conv => rhs; unfold sp
      rw [if_neg hc]

/-- A label begun badly stays bad. -/
def Bad (cur : List UInt8) : Prop := cur.all hostU = false ∨ cur.head? = some 45
theorem bad_label {cur : List UInt8} (h : Bad cur) : labelOK cur = false := by
  unfold labelOK
  rcases h with h | h
  · rw [h]; simp
  · rw [h]; simp
theorem bad_more {cur : List UInt8} (h : Bad cur) (c : UInt8) : Bad (cur ++ [c]) := by
  rcases h with h | h
  · left; rw [List.all_append, h]; rfl
  · right; cases cur with
    | nil => simp at h
    | cons a t => simpa using h
theorem sp_bad : ∀ (l cur : List UInt8), Bad cur → (sp cur l).all labelOK = false
  | [], cur, h => by simp [sp, bad_label h]
  | c :: r, cur, h => by
    unfold sp
    split
    · simp [bad_label h]
    · exact sp_bad r _ (bad_more h c)

theorem labelOK_good {cur : List UInt8} (h1 : cur.all hostU = true) (h2 : cur.head? ≠ some 45) :
    labelOK cur = (decide (0 < cur.length) && decide (cur.length ≤ 63) && !(cur.getLast?.getD 46 == 45)) := by
  unfold labelOK
  rw [h1]
  have e1 : (cur.head? == some 45) = false := by rw [beq_eq_false_iff_ne]; exact h2
  rw [e1]
  cases hl : cur with
  | nil => simp
  | cons a t =>
    have : ((a :: t).getLast?) = some ((a :: t).getLast (by simp)) := List.getLast?_eq_some_getLast (by simp)
    rw [this]; simp

theorem sp_auto : ∀ (l cur : List UInt8), cur.all hostU = true → cur.head? ≠ some 45 → (sp cur l).all labelOK = auto l cur.length (cur.getLast?.getD 46)
  | [], cur, h1, h2 => by
    unfold sp auto
    simp only [List.all_cons, List.all_nil, Bool.and_true]
    exact labelOK_good h1 h2
  | c :: r, cur, h1, h2 => by
    unfold sp auto
    by_cases hc : c = 46
    · subst hc
      rw [if_pos rfl, if_pos rfl, List.all_cons, labelOK_good h1 h2]
      have ih := sp_auto r [] rfl (by simp)
      rw [ih]
      generalize cur.getLast?.getD 46 = p
      generalize cur.length = n
      by_cases hb : n = 0 ∨ 63 < n ∨ p = 45
      · rw [if_pos hb]
        rcases hb with hb | hb | hb
        · simp [hb]
        · have : ¬ n ≤ 63 := by omega
          simp [this]
        · simp [hb]
      · rw [if_neg hb]
        have a1 : 0 < n := by omega
        have a2 : n ≤ 63 := by omega
        have a3 : (p == 45) = false := by rw [beq_eq_false_iff_ne]; exact fun e => hb (.inr (.inr e))
        simp [a1, a2, a3]
    · rw [if_neg hc, if_neg hc]
      by_cases hh : hostU c = false
      · rw [if_pos hh]
        exact sp_bad r _ (.inl (by rw [List.all_append, h1]; simp [hh]))
      · rw [if_neg hh]
        by_cases h0 : cur.length = 0 ∧ c = 45
        · rw [if_pos h0]
          have : cur = [] := List.length_eq_zero_iff.1 h0.1
          subst this
          exact sp_bad r _ (.inr (by simp [h0.2]))
        · rw [if_neg h0]
          have ih := sp_auto r (cur ++ [c]) (by rw [List.all_append, h1]; simp; simpa using hh) (by
            cases cur with
            | nil => simp; intro e; exact h0 ⟨rfl, e⟩
            | cons a t => simpa using h2)
          rw [ih]; simp

/-- THE LAW, plain. -/
theorem host_eq_model (l : List UInt8) : hostL l = modelL l := by
  unfold hostL modelL
  have h1 := split_sp l [] (by simp)
  rw [List.nil_append] at h1
  have h2 := sp_auto l [] rfl (by simp)
  unfold split
  rw [h1, h2]; rfl

end Go.Proofs.Qxb6603915aDoor.Plain
