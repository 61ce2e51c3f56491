/-
  THE PLAIN LAWS of seat b6603845aD: lists of bytes alone, no Go. 'startW', 'endW', 'trimR': the law's own white-space helpers; 'trimSpaceU': the kit's byte-wise strings.TrimSpace.
-/
import Derived.Lib.SpaceUEq
import Derived.Lib.IndexMore
namespace Go.Proofs.Qxb6603845aDoor.Plain
open Go.Lib

def asciiW (c : UInt8) : Bool := c == 9 || c == 10 || c == 11 || c == 12 || c == 13 || c == 32
def white3 (a b c : UInt8) : Bool :=
  if a = 0xE1 then b == 0x9A && c == 0x80
  else if a = 0xE3 then b == 0x80 && c == 0x80
  else if a ≠ 0xE2 then false
  else if b = 0x81 then c == 0x9F
  else if b ≠ 0x80 then false
  else (decide (0x80 ≤ c.toNat) && decide (c.toNat ≤ 0x8A)) || c == 0xA8 || c == 0xA9 || c == 0xAF

/-- whiteAtStart. -/
def startW : List UInt8 → Nat
  | [] => 0
  | a :: r => if asciiW a then 1 else
    match r with
    | [] => 0
    | b :: r' => if a = 0xC2 ∧ (b = 0x85 ∨ b = 0xA0) then 2 else
      match r' with
      | [] => 0
      | c :: _ => if white3 a b c then 3 else 0
/-- whiteAtEnd, of the REVERSED list. -/
def endRev : List UInt8 → Nat
  | [] => 0
  | c :: r => if asciiW c then 1 else
    match r with
    | [] => 0
    | b :: r' => if b = 0xC2 ∧ (c = 0x85 ∨ c = 0xA0) then 2 else
      match r' with
      | [] => 0
      | a :: _ => if white3 a b c then 3 else 0
def endW (l : List UInt8) : Nat := endRev l.reverse
/-- trimWhiteRight, with fuel. -/
def trimR : Nat → List UInt8 → List UInt8
  | 0, l => l
  | f + 1, l => if endW l = 0 then l else trimR f (l.take (l.length - endW l))

theorem no58 : ∀ q ∈ spaceSeqs, (58 : UInt8) ∉ q := by decide
theorem lens : ∀ q ∈ spaceSeqs, q.length = 1 ∨ q.length = 2 ∨ q.length = 3 := by decide

/-! ### The head -/
theorem mem1 : ∀ q ∈ spaceSeqs, q.length = 1 → ∃ a, q = [a] ∧ asciiW a = true := by
  intro q hq h
  have : (spaceSeqs.all fun q => !(q.length == 1) || (match q with | [a] => asciiW a | _ => false)) = true := by decide
  have := List.all_eq_true.1 this q hq
  match q, h with
  | [a], _ => exact ⟨a, rfl, by simpa using this⟩
theorem mem2 : ∀ q ∈ spaceSeqs, q.length = 2 → ∃ a b, q = [a, b] ∧ a = 0xC2 ∧ (b = 0x85 ∨ b = 0xA0) := by
  intro q hq h
  have : (spaceSeqs.all fun q => !(q.length == 2) || (match q with | [a, b] => a == 0xC2 && (b == 0x85 || b == 0xA0) | _ => false)) = true := by decide
  have := List.all_eq_true.1 this q hq
  match q, h with
  | [a, b], _ => exact ⟨a, b, rfl, by simpa using this⟩
theorem mem3 : ∀ q ∈ spaceSeqs, q.length = 3 → ∃ a b c, q = [a, b, c] ∧ white3 a b c = true := by
  intro q hq h
  have : (spaceSeqs.all fun q => !(q.length == 3) || (match q with | [a, b, c] => white3 a b c | _ => false)) = true := by decide
  have := List.all_eq_true.1 this q hq
  match q, h with
  | [a, b, c], _ => exact ⟨a, b, c, rfl, by simpa using this⟩
theorem in1 (a : UInt8) (h : asciiW a = true) : [a] ∈ spaceSeqs := by
  simp only [asciiW, Bool.or_eq_true, beq_iff_eq] at h
  rcases h with ((((rfl | rfl) | rfl) | rfl) | rfl) | rfl <;> decide
theorem in2 (b : UInt8) (h : b = 0x85 ∨ b = 0xA0) : [0xC2, b] ∈ spaceSeqs := by rcases h with rfl | rfl <;> decide
theorem in3 (a b c : UInt8) (h : white3 a b c = true) : [a, b, c] ∈ spaceSeqs := by
  unfold white3 at h
  by_cases h1 : a = 0xE1
  · rw [if_pos h1, Bool.and_eq_true, beq_iff_eq, beq_iff_eq] at h
    rw [h1, h.1, h.2]; decide
  · rw [if_neg h1] at h
    by_cases h3 : a = 0xE3
    · rw [if_pos h3, Bool.and_eq_true, beq_iff_eq, beq_iff_eq] at h
      rw [h3, h.1, h.2]; decide
    · rw [if_neg h3] at h
      by_cases h2 : a ≠ 0xE2
      · rw [if_pos h2] at h; cases h
      · rw [if_neg h2] at h
        have ha : a = 0xE2 := Classical.byContradiction fun e => h2 e
        by_cases hb : b = 0x81
        · rw [if_pos hb, beq_iff_eq] at h
          rw [ha, hb, h]; decide
        · rw [if_neg hb] at h
          by_cases hb0 : b ≠ 0x80
          · rw [if_pos hb0] at h; cases h
          · rw [if_neg hb0] at h
            have hb' : b = 0x80 := Classical.byContradiction fun e => hb0 e
            rw [ha, hb']
            simp only [Bool.or_eq_true, Bool.and_eq_true, decide_eq_true_eq, beq_iff_eq] at h
            rcases h with ((⟨x, y⟩ | rfl) | rfl) | rfl
            · have hall : ∀ n : Nat, n < 11 → [(0xE2 : UInt8), 0x80, (0x80 + n).toUInt8] ∈ spaceSeqs := by decide
              have := hall (c.toNat - 0x80) (by omega)
              have e : (0x80 + (c.toNat - 0x80)).toUInt8 = c := by
                rw [show 0x80 + (c.toNat - 0x80) = c.toNat by omega]; simp
              rw [e] at this; exact this
            · decide
            · decide
            · decide

/-- No white space at the head of the field: none at the head of the line. -/
theorem head_none (field rest : List UInt8) (h : startW field = 0) : headSpace (field ++ 58 :: rest) = 0 := by
  unfold headSpace
  have : spaceSeqs.find? (·.isPrefixOf (field ++ 58 :: rest)) = none := by
    rw [List.find?_eq_none]
    intro q hq hp
    have hp' := List.isPrefixOf_iff_prefix.1 hp
    have hn := no58 q hq
    -- q is a prefix of the field
    have hqf : q <+: field := by
      rcases List.prefix_or_prefix_of_prefix hp' (List.prefix_append field (58 :: rest)) with h' | h'
      · exact h'
      · obtain ⟨t, ht⟩ := h'
        cases t with
        | nil => rw [List.append_nil] at ht; rw [ht]; exact List.prefix_refl _
        | cons x t =>
          exfalso
          rw [← ht] at hp'
          obtain ⟨u, hu⟩ := hp'
          rw [List.append_assoc, List.append_cancel_left_eq] at hu
          have : x = 58 := by simpa using congrArg List.head? hu
          exact hn (by rw [← ht, this]; simp)
    obtain ⟨t, ht⟩ := hqf
    rcases lens q hq with hl | hl | hl
    · obtain ⟨a, rfl, ha⟩ := mem1 q hq hl
      rw [← ht] at h; simp [startW, ha] at h
    · obtain ⟨a, b, rfl, ha, hb⟩ := mem2 q hq hl
      rw [← ht] at h
      have : startW ([a, b] ++ t) = if asciiW a then 1 else 2 := by
        have hab : a = 0xC2 ∧ (b = 0x85 ∨ b = 0xA0) := ⟨ha, hb⟩
        simp only [startW, List.cons_append, List.nil_append]
        rw [if_pos hab]
      rw [this] at h; split at h <;> cases h
    · obtain ⟨a, b, c, rfl, hw⟩ := mem3 q hq hl
      rw [← ht] at h
      have : startW ([a, b, c] ++ t) = if asciiW a then 1 else if a = 0xC2 ∧ (b = 0x85 ∨ b = 0xA0) then 2 else 3 := by
        simp only [startW, List.cons_append, List.nil_append, hw, if_true]
      rw [this] at h; split at h
      · cases h
      · split at h <;> cases h
  rw [this]; rfl

/-! ### The end -/
theorem endRev_le (l : List UInt8) : endRev l ≤ l.length := by
  match l with
  | [] => simp [endRev]
  | [c] => simp only [endRev]; split <;> simp
  | [c, b] => simp only [endRev]; split <;> (try split) <;> simp
  | c :: b :: a :: r => simp only [endRev]; split <;> (try split) <;> (try split) <;> simp <;> omega
theorem endW_le (l : List UInt8) : endW l ≤ l.length := by unfold endW; have := endRev_le l.reverse; simpa using this

/-- The white-space character at the end, as the kit finds it. -/
theorem tail_eq (l : List UInt8) : tailSpace l = endW l := by
  unfold tailSpace
  have key : ∀ q : List UInt8, q.isSuffixOf l = true ↔ q.reverse <+: l.reverse := by
    intro q; rw [List.isSuffixOf_iff_suffix, List.reverse_prefix]
  cases hf : spaceSeqs.find? (·.isSuffixOf l) with
  | some q =>
    have hq := List.mem_of_find?_eq_some hf
    have hs := List.find?_some hf
    obtain ⟨t, ht⟩ := (key q).1 hs
    simp only [Option.map_some, Option.getD_some]
    unfold endW
    rw [← ht]
    rcases lens q hq with hl | hl | hl
    · obtain ⟨a, rfl, ha⟩ := mem1 q hq hl
      simp [endRev, ha]
    · obtain ⟨a, b, rfl, ha, hb⟩ := mem2 q hq hl
      have hnb : asciiW b = false := by rcases hb with rfl | rfl <;> decide
      simp [endRev, hnb, ha, hb]
    · obtain ⟨a, b, c, rfl, hw⟩ := mem3 q hq hl
      have hall : (spaceSeqs.all fun q => match q with | [_, b, c] => !asciiW c && !(b == 0xC2) | _ => true) = true := by decide
      have := List.all_eq_true.1 hall _ hq
      simp only [Bool.and_eq_true, Bool.not_eq_true', beq_eq_false_iff_ne] at this
      simp [endRev, this.1, this.2, hw]
  | none =>
    simp only [Option.map_none, Option.getD_none]
    have hno : ∀ q ∈ spaceSeqs, ¬ q.reverse <+: l.reverse := fun q hq hp => by
      have := List.find?_eq_none.1 hf q hq
      exact this ((key q).2 hp)
    unfold endW
    generalize l.reverse = m at hno
    match m, hno with
    | [], _ => rfl
    | c :: r, hno =>
      have h1 : asciiW c = false := by
        cases h : asciiW c with
        | false => rfl
        | true => exact absurd ⟨r, rfl⟩ (hno [c] (in1 c h))
      match r, hno with
      | [], _ => simp [endRev, h1]
      | b :: r', hno =>
        have h2 : ¬ (b = 0xC2 ∧ (c = 0x85 ∨ c = 0xA0)) := fun ⟨x, y⟩ => by
          subst x; exact hno [0xC2, c] (in2 c y) ⟨r', rfl⟩
        match r', hno with
        | [], _ => simp [endRev, h1, h2]
        | a :: r'', hno =>
          have h3 : white3 a b c = false := by
            cases h : white3 a b c with
            | false => rfl
            | true => exact absurd ⟨r'', rfl⟩ (hno [a, b, c] (in3 a b c h))
          simp [endRev, h1, h2, h3]

theorem stripR_eq : ∀ (f : Nat) (l : List UInt8), stripR f l = trimR f l
  | 0, _ => rfl
  | f + 1, l => by
    unfold stripR trimR
    rw [tail_eq]
    split
    · rfl
    · exact stripR_eq f _

/-- White space at the end does not reach over a colon. -/
theorem endW_colon (p v : List UInt8) : endW (p ++ 58 :: v) = endW v := by
  unfold endW
  rw [List.reverse_append, List.reverse_cons, List.append_assoc]
  generalize v.reverse = m
  have e58 : asciiW 58 = false := by decide
  have w1 : ∀ b c : UInt8, white3 58 b c = false := fun b c => by unfold white3; simp
  have w2 : ∀ a c : UInt8, white3 a 58 c = false := fun a c => by
    unfold white3; simp
  have n2 : ∀ c : UInt8, ¬ ((58 : UInt8) = 0xC2 ∧ (c = 0x85 ∨ c = 0xA0)) := fun c h => absurd h.1 (by decide)
  match m with
  | [] =>
    show endRev (58 :: p.reverse) = 0
    match p.reverse with
    | [] => simp [endRev, e58]
    | [b] => simp [endRev, e58]
    | b :: a :: _ =>
      have : white3 a b 58 = false := by
        unfold white3
        simp
      simp [endRev, e58, this]
  | [c] =>
    show endRev (c :: 58 :: p.reverse) = endRev [c]
    match p.reverse with
    | [] => simp [endRev]
    | a :: _ => simp [endRev, w2]
  | [c, b] =>
    show endRev (c :: b :: 58 :: p.reverse) = endRev [c, b]
    simp [endRev, w1]
  | c :: b :: a :: r => rfl

/-- More fuel than bytes does not matter. -/
theorem trimR_fuel : ∀ (f : Nat) (l : List UInt8), l.length ≤ f → trimR f l = trimR l.length l
  | 0, l, h => by
    have : l.length = 0 := by omega
    rw [this]
  | f + 1, l, h => by
    cases hl : l.length with
    | zero =>
      have : l = [] := List.length_eq_zero_iff.1 hl
      subst this
      unfold trimR
      rfl
    | succ n =>
      unfold trimR
      by_cases h0 : endW l = 0
      · rw [if_pos h0, if_pos h0]
      · rw [if_neg h0, if_neg h0]
        have hle := endW_le l
        have len : (l.take (l.length - endW l)).length = l.length - endW l := by rw [List.length_take]; omega
        rw [trimR_fuel f _ (by omega), trimR_fuel n _ (by omega)]

theorem trimR_colon : ∀ (f : Nat) (p v : List UInt8), trimR f (p ++ 58 :: v) = p ++ 58 :: trimR f v
  | 0, _, _ => rfl
  | f + 1, p, v => by
    unfold trimR
    rw [endW_colon]
    by_cases h0 : endW v = 0
    · rw [if_pos h0, if_pos h0]
    · rw [if_neg h0, if_neg h0]
      have hle := endW_le v
      have e : (p ++ 58 :: v).take ((p ++ 58 :: v).length - endW v) = p ++ 58 :: v.take (v.length - endW v) := by
        rw [show (p ++ 58 :: v).length - endW v = (p ++ [58]).length + (v.length - endW v) by simp; omega]
        rw [show p ++ 58 :: v = (p ++ [58]) ++ v by simp, List.take_length_add_append]; simp
      rw [e, trimR_colon f p]

/-- What trimWhiteRight gives. -/
def trimW (l : List UInt8) : List UInt8 := trimR l.length l

theorem endW_nl (v : List UInt8) : endW (v ++ [10]) = 1 := by
  unfold endW
  rw [List.reverse_append]
  have : asciiW 10 = true := by decide
  simp [endRev, this]

/-- THE LINE, TRIMMED. -/
theorem line_trim (field value : List UInt8) (h : startW field = 0) : trimSpaceD (field ++ 58 :: (value ++ [10])) = field ++ 58 :: trimW value := by
  rw [← trimSpaceU_eq]
  unfold trimSpaceU
  have h0 := head_none field (value ++ [10]) h
  have e1 : stripL (field ++ 58 :: (value ++ [10])).length (field ++ 58 :: (value ++ [10])) = field ++ 58 :: (value ++ [10]) := by
    cases (field ++ 58 :: (value ++ [10])).length with
    | zero => rfl
    | succ n => unfold stripL; rw [if_pos h0]
  rw [e1, stripR_eq]
  have hlen : (field ++ 58 :: (value ++ [10])).length = (field.length + value.length + 1) + 1 := by simp; omega
  rw [hlen]
  unfold trimR
  have e2 : endW (field ++ 58 :: (value ++ [10])) = 1 := by rw [endW_colon, endW_nl]
  rw [if_neg (by rw [e2]; decide), e2]
  have e3 : (field ++ 58 :: (value ++ [10])).take ((field ++ 58 :: (value ++ [10])).length - 1) = field ++ 58 :: value := by
    rw [show field ++ 58 :: (value ++ [10]) = (field ++ 58 :: value) ++ [10] by simp]
    have hl : ((field ++ 58 :: value) ++ [10]).length - 1 = (field ++ 58 :: value).length := by rw [List.length_append]; simp
    rw [hl, List.take_left]
  rw [e3, trimR_colon]
  unfold trimW
  rw [trimR_fuel _ value (by omega)]

/-- .. and cut. -/
theorem cut_field (field v : List UInt8) (h : (58 : UInt8) ∉ field) : cut (field ++ 58 :: v) [58] = (field, v, true) := by
  have hocc : ∀ (l : List UInt8) (i : Nat), occAt l [58] i = true ↔ l[i]? = some 58 := by
    intro l i
    constructor
    · intro h; exact occAt_head rfl h
    · intro h
      obtain ⟨hi, e⟩ := List.getElem?_eq_some_iff.1 h
      unfold occAt
      rw [List.drop_eq_getElem_cons hi, e]; simp
  have hi : index (field ++ 58 :: v) [58] = field.length := by
    refine index_first (by simp) ((hocc _ _).2 (by simp)) fun j hj => ?_
    cases ho : occAt (field ++ 58 :: v) [58] j with
    | false => rfl
    | true =>
      have := (hocc _ _).1 ho
      rw [List.getElem?_append_left hj] at this
      exact absurd (List.mem_of_getElem? this) h
  unfold cut
  rw [hi, if_pos (by omega), Int.toNat_natCast]
  simp

end Go.Proofs.Qxb6603845aDoor.Plain
