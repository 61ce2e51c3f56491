/-
  THE PLAIN LAWS of seat b6603167aD: lists of bytes alone, no Go. 'scan' is the law's own left-to-right scan; 'typeL' what Type answers; 'renL' what Renamed answers.
-/
import Derived.Lib.SplitLaws
import Derived.Lib.LastIndexLaws
namespace Go.Proofs.Qxb6603167aDoor.Plain
open Go.Lib

def sep : List UInt8 := [58, 58]

/-- The law's scan: (count, first, second) behind the bytes that are left. -/
def scan : List UInt8 → Nat → Nat → Nat → Nat → Nat × Nat × Nat
  | [], _, c, f, s => (c, f, s)
  | [_], _, c, f, s => (c, f, s)
  | a :: b :: r, i, c, f, s => if a = 58 ∧ b = 58 then scan r (i + 2) (c + 1) (if c = 0 then i else f) (if c = 1 then i else s) else scan (b :: r) (i + 1) c f s

theorem scan_nil (i c f s : Nat) : scan [] i c f s = (c, f, s) := by simp [scan]
theorem scan_one (a : UInt8) (i c f s : Nat) : scan [a] i c f s = (c, f, s) := by simp [scan]
theorem scan_hit (r : List UInt8) (i c f s : Nat) : scan (58 :: 58 :: r) i c f s = scan r (i + 2) (c + 1) (if c = 0 then i else f) (if c = 1 then i else s) := by
  conv => lhs; unfold scan
  simp
theorem scan_miss (a b : UInt8) (r : List UInt8) (i c f s : Nat) (h : ¬ (a = 58 ∧ b = 58)) : scan (a :: b :: r) i c f s = scan (b :: r) (i + 1) c f s := by
  conv => lhs; unfold scan
  simp [h]

theorem index_sep_hit (r : List UInt8) : index (58 :: 58 :: r) sep = 0 := by
  unfold index; rw [if_pos (by simp [sep])]
theorem index_sep_miss (a b : UInt8) (r : List UInt8) (h : ¬ (a = 58 ∧ b = 58)) : index (a :: b :: r) sep = if index (b :: r) sep == -1 then -1 else index (b :: r) sep + 1 := by
  have : sep.isPrefixOf (a :: b :: r) = false := by
    simp [sep, List.isPrefixOf]; intro h1 h2; exact h ⟨h1.symm, h2.symm⟩
  conv => lhs; unfold index
  rw [this]; simp
theorem index_sep_nil : index [] sep = -1 := rfl
theorem index_sep_one (a : UInt8) : index [a] sep = -1 := by
  unfold index; simp [sep, List.isPrefixOf, index]

theorem scan_index : ∀ (n : Nat) (l : List UInt8), l.length ≤ n → ∀ (i c f s : Nat),
    (index l sep = -1 → scan l i c f s = (c, f, s)) ∧
    (∀ j : Nat, index l sep = j → scan l i c f s = scan (l.drop (j + 2)) (i + j + 2) (c + 1) (if c = 0 then i + j else f) (if c = 1 then i + j else s))
  | 0, l, h, i, c, f, s => by
    have : l = [] := List.length_eq_zero_iff.1 (by omega)
    subst this
    refine ⟨fun _ => scan_nil .., fun j hj => ?_⟩
    rw [index_sep_nil] at hj; omega
  | n + 1, [], h, i, c, f, s => by
    refine ⟨fun _ => scan_nil .., fun j hj => ?_⟩
    rw [index_sep_nil] at hj; omega
  | n + 1, [a], h, i, c, f, s => by
    refine ⟨fun _ => scan_one .., fun j hj => ?_⟩
    rw [index_sep_one] at hj; omega
  | n + 1, a :: b :: r, h, i, c, f, s => by
    by_cases hab : a = 58 ∧ b = 58
    · obtain ⟨rfl, rfl⟩ := hab
      refine ⟨fun hj => ?_, fun j hj => ?_⟩
      · rw [index_sep_hit] at hj; omega
      · rw [index_sep_hit] at hj
        have : j = 0 := by omega
        subst this
        rw [scan_hit]; simp
    · obtain ⟨h1, h2⟩ := scan_index n (b :: r) (by simpa using h) (i + 1) c f s
      rw [index_sep_miss a b r hab, scan_miss a b r i c f s hab]
      have hge := index_ge (b :: r) sep
      refine ⟨fun hj => ?_, fun j hj => ?_⟩
      · refine h1 ?_
        by_cases e : index (b :: r) sep = -1
        · exact e
        · rw [if_neg (fun x => e (beq_iff_eq.1 x))] at hj; omega
      · by_cases e : index (b :: r) sep = -1
        · rw [if_pos (beq_iff_eq.2 e)] at hj; omega
        · rw [if_neg (fun x => e (beq_iff_eq.1 x))] at hj
          have := h2 (j - 1) (by omega)
          rw [this]
          obtain ⟨k, rfl⟩ : ∃ k, j = k + 1 := ⟨j - 1, by omega⟩
          have e1 : i + 1 + (k + 1 - 1) = i + (k + 1) := by omega
          have e2 : (b :: r).drop (k + 1 - 1 + 2) = (a :: b :: r).drop (k + 1 + 2) := by simp
          rw [e1, e2]

theorem sep_ne : sep ≠ [] := by simp [sep]

theorem scan_count : ∀ (n : Nat) (l : List UInt8), l.length ≤ n → ∀ (i c f s : Nat), (scan l i c f s).1 = c + count l sep
  | n, l, h, i, c, f, s => by
    obtain ⟨h1, h2⟩ := scan_index n l h i c f s
    rcases index_spec l sep with ⟨e, _⟩ | ⟨j, e, hj, ho, _⟩
    · rw [h1 e, count_miss e]; rfl
    · rw [h2 j e, count_hit sep_ne e]
      have hr : j + 2 ≤ l.length := by
        rcases occAt_room ho with h' | h'
        · simpa [sep] using h'
        · exact absurd h' sep_ne
      cases n with
      | zero => omega
      | succ n =>
        have := scan_count n (l.drop (j + 2)) (by rw [List.length_drop]; omega) (i + j + 2) (c + 1) (if c = 0 then i + j else f) (if c = 1 then i + j else s)
        rw [this]
        have : l.drop (j + sep.length) = l.drop (j + 2) := rfl
        rw [this]; omega

/-- What URN.Type answers. -/
def typeL (l : List UInt8) : List UInt8 := if count l sep = 2 then ((splitK sep 0 2 l)[1]?).getD [] else []
/-- What the law's scan model answers. -/
def modelL (l : List UInt8) : List UInt8 :=
  if (scan l 0 0 0 0).1 = 2 then (l.drop ((scan l 0 0 0 0).2.1 + 2)).take ((scan l 0 0 0 0).2.2 - ((scan l 0 0 0 0).2.1 + 2)) else []

/-- u NAMES the type b: two separators, found from the left. -/
def Names (l a b c : List UInt8) : Prop := l = a ++ sep ++ (b ++ sep ++ c) ∧ index l sep = a.length ∧ index (b ++ sep ++ c) sep = b.length ∧ index c sep = -1

theorem index_parts {l : List UInt8} {j : Nat} (h : index l sep = j) : l = l.take j ++ sep ++ l.drop (j + 2) ∧ j + 2 ≤ l.length := by
  rcases index_spec l sep with ⟨e, _⟩ | ⟨i, e, hi, ho, _⟩
  · omega
  · have : i = j := by omega
    subst this
    have hr : i + 2 ≤ l.length := by
      rcases occAt_room ho with h' | h'
      · simpa [sep] using h'
      · exact absurd h' sep_ne
    refine ⟨?_, hr⟩
    obtain ⟨r, hr'⟩ := List.isPrefixOf_iff_prefix.1 ho
    have h1 : l = l.take i ++ l.drop i := (List.take_append_drop i l).symm
    have h2 : l.drop (i + 2) = r := by
      rw [← List.drop_drop, ← hr']; simp [sep]
    rw [h2, List.append_assoc, hr']; exact h1

/-- Two separators: the three parts. -/
theorem names_of_count {l : List UInt8} (h : count l sep = 2) : ∃ a b c, Names l a b c := by
  rcases index_spec l sep with ⟨e, _⟩ | ⟨j, e, _, _, _⟩
  · rw [count_miss e] at h; omega
  · obtain ⟨p1, r1⟩ := index_parts e
    rw [count_hit sep_ne e] at h
    have h' : count (l.drop (j + 2)) sep = 1 := by
      have : l.drop (j + sep.length) = l.drop (j + 2) := rfl
      rw [this] at h; omega
    rcases index_spec (l.drop (j + 2)) sep with ⟨e2, _⟩ | ⟨k, e2, _, _, _⟩
    · rw [count_miss e2] at h'; omega
    · obtain ⟨p2, r2⟩ := index_parts e2
      rw [count_hit sep_ne e2] at h'
      have h'' : count ((l.drop (j + 2)).drop (k + 2)) sep = 0 := by
        have : (l.drop (j + 2)).drop (k + sep.length) = (l.drop (j + 2)).drop (k + 2) := rfl
        rw [this] at h'; omega
      have e3 : index ((l.drop (j + 2)).drop (k + 2)) sep = -1 := by
        rcases index_spec ((l.drop (j + 2)).drop (k + 2)) sep with ⟨e3, _⟩ | ⟨m, e3, _, _, _⟩
        · exact e3
        · rw [count_hit sep_ne e3] at h''; omega
      refine ⟨l.take j, (l.drop (j + 2)).take k, (l.drop (j + 2)).drop (k + 2), ?_, ?_, ?_, e3⟩
      · rw [← p2]; exact p1
      · rw [e, List.length_take, Nat.min_eq_left (by omega)]
      · rw [← p2, e2, List.length_take, Nat.min_eq_left (by omega)]

theorem Names.drop {l a b c : List UInt8} (h : Names l a b c) : l.drop (a.length + 2) = b ++ sep ++ c := by
  rw [h.1, show a.length + 2 = (a ++ sep).length by simp [sep], List.drop_left]
theorem Names.drop2 {l a b c : List UInt8} (_h : Names l a b c) : (b ++ sep ++ c).drop (b.length + 2) = c := by
  rw [show b.length + 2 = (b ++ sep).length by simp [sep], List.drop_left]

theorem Names.count {l a b c : List UInt8} (h : Names l a b c) : count l sep = 2 := by
  rw [count_hit sep_ne h.2.1, show a.length + sep.length = a.length + 2 from rfl, h.drop, count_hit sep_ne h.2.2.1, show b.length + sep.length = b.length + 2 from rfl, h.drop2, count_miss h.2.2.2]

theorem Names.type {l a b c : List UInt8} (h : Names l a b c) : typeL l = b := by
  unfold typeL
  rw [if_pos h.count]
  have n1 : ¬ (index l sep == -1) = true := fun e => by have := beq_iff_eq.1 e; have := h.2.1; omega
  have n2 : ¬ (index (b ++ sep ++ c) sep == -1) = true := fun e => by have := beq_iff_eq.1 e; have := h.2.2.1; omega
  unfold splitK
  rw [if_neg n1, h.2.1]
  simp only [Int.toNat_natCast, List.getElem?_cons_succ]
  rw [show a.length + sep.length = a.length + 2 from rfl, h.drop]
  unfold splitK
  rw [if_neg n2, h.2.2.1]
  simp

theorem Names.scan {l a b c : List UInt8} (h : Names l a b c) : scan l 0 0 0 0 = (2, a.length, a.length + 2 + b.length) := by
  rw [((scan_index _ l (Nat.le_refl _) 0 0 0 0).2 _ h.2.1), h.drop]
  rw [((scan_index _ _ (Nat.le_refl _) _ _ _ _).2 _ h.2.2.1), h.drop2]
  rw [((scan_index _ _ (Nat.le_refl _) _ _ _ _).1 h.2.2.2)]
  simp

/-- THE FIRST LAW, plain. -/
theorem type_eq_model (l : List UInt8) : typeL l = modelL l := by
  by_cases h2 : count l sep = 2
  · obtain ⟨a, b, c, h⟩ := names_of_count h2
    rw [h.type]
    unfold modelL
    rw [h.scan]
    simp only [if_true]
    rw [h.drop, show a.length + 2 + b.length - (a.length + 2) = b.length by omega, List.append_assoc, List.take_left]
  · unfold typeL modelL
    rw [if_neg h2, if_neg]
    rw [scan_count _ l (Nat.le_refl _)]; omega

/-! ### Occurrences -/
theorem occ_iff (l : List UInt8) (i : Nat) : occAt l sep i = true ↔ l[i]? = some 58 ∧ l[i + 1]? = some 58 := by
  constructor
  · intro h; exact ⟨occAt_head rfl h, occAt_second rfl h⟩
  · rintro ⟨h1, h2⟩
    obtain ⟨hi, e1⟩ := List.getElem?_eq_some_iff.1 h1
    obtain ⟨hi2, e2⟩ := List.getElem?_eq_some_iff.1 h2
    unfold occAt
    rw [List.drop_eq_getElem_cons hi, List.drop_eq_getElem_cons hi2, e1, e2]
    simp [sep]

theorem noOcc_iff (l : List UInt8) (i : Nat) : occAt l sep i = false ↔ ¬ (l[i]? = some 58 ∧ l[i + 1]? = some 58) := by
  rw [← occ_iff]; simp

/-- No pair of colons in l. -/
theorem index_none_iff (l : List UInt8) : index l sep = -1 ↔ ∀ i : Nat, ¬ (l[i]? = some 58 ∧ l[i + 1]? = some 58) := by
  constructor
  · intro h i hi
    rcases index_spec l sep with ⟨_, h2⟩ | ⟨j, e, _, _, _⟩
    · by_cases hl : i ≤ l.length
      · have := (occ_iff l i).2 hi; rw [h2 i hl] at this; cases this
      · have := hi.1; rw [List.getElem?_eq_none (by omega)] at this; cases this
    · omega
  · intro h
    exact index_none fun j _ => (noOcc_iff l j).2 (h j)

/-- The first separator of 'a ++ sep ++ r' is behind a, whatever r: a holds none and does not end in a colon. -/
theorem index_app {a : List UInt8} (r : List UInt8) (h : ∀ i, i < a.length → ¬ ((a ++ [58])[i]? = some 58 ∧ (a ++ [58])[i + 1]? = some 58)) : index (a ++ sep ++ r) sep = a.length := by
  refine index_first (by simp) ((occ_iff _ _).2 ⟨?_, ?_⟩) fun j hj => (noOcc_iff _ _).2 fun ⟨h1, h2⟩ => h j hj ⟨?_, ?_⟩
  · rw [List.append_assoc, List.getElem?_append_right (Nat.le_refl _)]; simp [sep]
  · rw [List.append_assoc, List.getElem?_append_right (by omega)]; simp [sep]
  · rw [List.append_assoc, List.getElem?_append_left hj] at h1
    rw [List.getElem?_append_left hj]; exact h1
  · by_cases e : j + 1 < a.length
    · rw [List.append_assoc, List.getElem?_append_left e] at h2
      rw [List.getElem?_append_left e]; exact h2
    · have : j + 1 = a.length := by omega
      rw [this]; simp

/-- .. and the other way round. -/
theorem app_of_index {a r : List UInt8} (h : index (a ++ sep ++ r) sep = a.length) : ∀ i, i < a.length → ¬ ((a ++ [58])[i]? = some 58 ∧ (a ++ [58])[i + 1]? = some 58) := by
  intro i hi ⟨h1, h2⟩
  rcases index_spec (a ++ sep ++ r) sep with ⟨e, _⟩ | ⟨j, e, _, _, hn⟩
  · omega
  · have : j = a.length := by omega
    subst this
    have := hn i hi
    refine (noOcc_iff _ _).1 this ⟨?_, ?_⟩
    · rw [List.append_assoc, List.getElem?_append_left hi]
      rw [List.getElem?_append_left hi] at h1; exact h1
    · by_cases e : i + 1 < a.length
      · rw [List.append_assoc, List.getElem?_append_left e]
        rw [List.getElem?_append_left e] at h2; exact h2
      · have e' : i + 1 = a.length := by omega
        rw [List.append_assoc, e', List.getElem?_append_right (Nat.le_refl _)]; simp [sep]

/-- A clean part: no pair of colons, no colon at its end. -/
theorem clean_app {a : List UInt8} (h : index a sep = -1) (he : a.getLast? ≠ some 58) : ∀ i, i < a.length → ¬ ((a ++ [58])[i]? = some 58 ∧ (a ++ [58])[i + 1]? = some 58) := by
  intro i hi ⟨h1, h2⟩
  rw [List.getElem?_append_left hi] at h1
  by_cases e : i + 1 < a.length
  · rw [List.getElem?_append_left e] at h2
    exact (index_none_iff a).1 h i ⟨h1, h2⟩
  · have : i = a.length - 1 := by omega
    rw [this, ← List.getLast?_eq_getElem?] at h1
    exact he h1

/-- THE SECOND LAW, plain. -/
theorem type_joined (a b c : List UInt8) (ha : index a sep = -1) (hb : index b sep = -1) (hc : index c sep = -1) (ea : a.getLast? ≠ some 58) (eb : b.getLast? ≠ some 58) :
    typeL (a ++ sep ++ (b ++ sep ++ c)) = b :=
  Names.type (a := a) (c := c) ⟨rfl, index_app _ (clean_app ha ea), index_app _ (clean_app hb eb), hc⟩

/-! ### Renamed -/
/-- What Renamed answers. -/
def renL (u name : List UInt8) : List UInt8 := if typeL u = [] then u else u.take ((lastIndex u sep).toNat + 2) ++ name

/-- The last separator of a URN that names a type: the second one, or one byte on (a third colon). -/
theorem last_of_names {l a b c : List UInt8} (h : Names l a b c) :
    (lastIndex l sep = ((a.length + 2 + b.length : Nat) : Int) ∧ c.head? ≠ some 58) ∨
    (lastIndex l sep = ((a.length + 2 + b.length + 1 : Nat) : Int) ∧ ∃ c', c = 58 :: c') := by
  have hl : l.length = a.length + 2 + b.length + 2 + c.length := by rw [h.1]; simp [sep]; omega
  have hat : ∀ i, l[a.length + 2 + b.length + 2 + i]? = c[i]? := by
    intro i
    rw [h.1]
    rw [List.append_assoc, List.getElem?_append_right (by omega), List.getElem?_append_right (by simp [sep]; omega), List.append_assoc, List.getElem?_append_right (by simp [sep]; omega), List.getElem?_append_right (by simp [sep]; omega)]
    congr 1; simp [sep]; omega
  have h0 : l[a.length + 2 + b.length]? = some 58 := by
    rw [h.1]
    rw [List.append_assoc, List.getElem?_append_right (by omega), List.getElem?_append_right (by simp [sep]; omega), List.append_assoc, List.getElem?_append_right (by simp [sep]; omega)]
    have : a.length + 2 + b.length - a.length - sep.length - b.length = 0 := by simp [sep]; omega
    rw [this]; simp [sep]
  have h1 : l[a.length + 2 + b.length + 1]? = some 58 := by
    rw [h.1]
    rw [List.append_assoc, List.getElem?_append_right (by omega), List.getElem?_append_right (by simp [sep]; omega), List.append_assoc, List.getElem?_append_right (by simp [sep]; omega)]
    have : a.length + 2 + b.length + 1 - a.length - sep.length - b.length = 1 := by simp [sep]; omega
    rw [this]; simp [sep]
  have hc := (index_none_iff c).1 h.2.2.2
  have big : ∀ j, a.length + 2 + b.length + 1 < j → occAt l sep j = false := by
    intro j hj
    rw [noOcc_iff]
    obtain ⟨i, rfl⟩ : ∃ i, j = a.length + 2 + b.length + 2 + i := ⟨j - (a.length + 2 + b.length + 2), by omega⟩
    rw [hat, Nat.add_assoc _ i 1, hat]
    exact hc i
  have occ0 : occAt l sep (a.length + 2 + b.length) = true := (occ_iff _ _).2 ⟨h0, h1⟩
  unfold lastIndex
  rw [if_pos (by simp only [sep, List.length_cons, List.length_nil]; omega)]
  have hk : l.length - sep.length + 1 = a.length + 2 + b.length + c.length + 1 := by simp only [sep, List.length_cons, List.length_nil]; omega
  rw [hk]
  rcases lastOcc_spec l sep (a.length + 2 + b.length + c.length + 1) with ⟨_, hn⟩ | ⟨i, hi, e, ho, hn⟩
  · rw [hn (a.length + 2 + b.length) (by omega)] at occ0; cases occ0
  · have hi1 : i ≤ a.length + 2 + b.length + 1 := Nat.le_of_not_lt fun hgt => by rw [big i hgt] at ho; cases ho
    have hi0 : a.length + 2 + b.length ≤ i := Nat.le_of_not_lt fun hlt => by rw [hn _ hlt (by omega)] at occ0; cases occ0
    by_cases ei : i = a.length + 2 + b.length
    · refine Or.inl ⟨by rw [e, ei], fun hh => ?_⟩
      have : occAt l sep (a.length + 2 + b.length + 1) = true := by
        refine (occ_iff _ _).2 ⟨h1, ?_⟩
        have := hat 0
        rw [Nat.add_zero] at this
        rw [show a.length + 2 + b.length + 1 + 1 = a.length + 2 + b.length + 2 from rfl, this]
        rw [← hh]; cases c <;> rfl
      have hcl : c ≠ [] := fun e => by subst e; simp at hh
      have := List.length_pos_iff.2 hcl
      rw [hn (a.length + 2 + b.length + 1) (by omega) (by omega)] at *
      simp_all
    · have ei' : i = a.length + 2 + b.length + 1 := by omega
      refine Or.inr ⟨by rw [e, ei'], ?_⟩
      have := ((occ_iff _ _).1 ho).2
      rw [ei'] at this
      have h' := hat 0
      rw [Nat.add_zero] at h'
      rw [show a.length + 2 + b.length + 1 + 1 = a.length + 2 + b.length + 2 from rfl, h'] at this
      cases c with
      | nil => simp at this
      | cons x c' => simp at this; exact ⟨c', by rw [this]⟩

theorem names_of_type {l : List UInt8} (h : typeL l ≠ []) : ∃ a b c, Names l a b c := by
  unfold typeL at h
  by_cases h2 : count l sep = 2
  · exact names_of_count h2
  · rw [if_neg h2] at h; exact absurd rfl h

/-- A renamed URN, part by part. -/
theorem ren_names {l a b c : List UInt8} (h : Names l a b c) (hb : b ≠ []) (name : List UInt8) :
    (renL l name = a ++ sep ++ (b ++ sep ++ name) ∧ c.head? ≠ some 58) ∨ (renL l name = a ++ sep ++ (b ++ sep ++ (58 :: name)) ∧ ∃ c', c = 58 :: c') := by
  have ht : ¬ typeL l = [] := by rw [h.type]; exact hb
  unfold renL
  rw [if_neg ht]
  rcases last_of_names h with ⟨e, hc⟩ | ⟨e, c', hc⟩
  · refine Or.inl ⟨?_, hc⟩
    rw [e, Int.toNat_natCast]
    have : l.take (a.length + 2 + b.length + 2) = a ++ sep ++ (b ++ sep) := by
      have hx : l = (a ++ sep ++ (b ++ sep)) ++ c := by rw [h.1]; simp
      rw [hx, show a.length + 2 + b.length + 2 = (a ++ sep ++ (b ++ sep)).length by simp [sep]; omega, List.take_left]
    rw [this]; simp
  · refine Or.inr ⟨?_, c', hc⟩
    rw [e, Int.toNat_natCast]
    have : l.take (a.length + 2 + b.length + 1 + 2) = a ++ sep ++ (b ++ sep ++ [58]) := by
      have hx : l = (a ++ sep ++ (b ++ sep ++ [58])) ++ c' := by rw [h.1, hc]; simp
      rw [hx, show a.length + 2 + b.length + 1 + 2 = (a ++ sep ++ (b ++ sep ++ [58])).length by simp [sep]; omega, List.take_left]
    rw [this]; simp

/-- THE THIRD LAW, plain: renaming to a clean name keeps the type. -/
theorem ren_type (u name : List UInt8) (hn : index name sep = -1) (hs : name.head? ≠ some 58) : typeL (renL u name) = typeL u := by
  by_cases ht : typeL u = []
  · unfold renL; rw [if_pos ht]
  · obtain ⟨a, b, c, h⟩ := names_of_type ht
    have hb : b ≠ [] := by rw [h.type] at ht; exact ht
    have ha := app_of_index (a := a) (r := b ++ sep ++ c) (by rw [← h.1]; exact h.2.1)
    have hb' := app_of_index h.2.2.1
    rw [h.type]
    rcases ren_names h hb name with ⟨e, _⟩ | ⟨e, _⟩
    · rw [e]
      exact Names.type (a := a) (c := name) ⟨rfl, index_app _ ha, index_app _ hb', hn⟩
    · rw [e]
      refine Names.type (a := a) (c := 58 :: name) ⟨rfl, index_app _ ha, index_app _ hb', ?_⟩
      rw [index_none_iff] at hn ⊢
      intro i
      cases i with
      | zero => rintro ⟨_, h2⟩; exact hs (by cases name <;> simp_all)
      | succ i => simpa using hn i

/-- THE FOURTH LAW, plain. -/
theorem ren_splices (u name : List UInt8) (ht : typeL u ≠ []) : ∃ k : Nat, 2 ≤ k ∧ k ≤ u.length ∧ renL u name = u.take k ++ name ∧ u[k - 2]? = some 58 ∧ u[k - 1]? = some 58 ∧ index (u.drop (k - 1)) sep = -1 := by
  obtain ⟨a, b, c, h⟩ := names_of_type ht
  have hl : u.length = a.length + 2 + b.length + 2 + c.length := by rw [h.1]; simp [sep]; omega
  have hx : renL u name = u.take ((lastIndex u sep).toNat + 2) ++ name := by unfold renL; rw [if_neg ht]
  have hlast : ∃ i : Nat, lastIndex u sep = i ∧ occAt u sep i = true ∧ ∀ j, i < j → occAt u sep j = false := by
    have hli : lastIndex u sep ≠ -1 := by
      rcases last_of_names h with ⟨e, _⟩ | ⟨e, _⟩ <;> omega
    unfold lastIndex at hli ⊢
    by_cases hle : sep.length ≤ u.length
    · rw [if_pos hle] at hli ⊢
      rcases lastOcc_spec u sep (u.length - sep.length + 1) with ⟨e, _⟩ | ⟨i, hi, e, ho, hn⟩
      · exact absurd e hli
      · refine ⟨i, e, ho, fun j hj => ?_⟩
        by_cases hj2 : j < u.length - sep.length + 1
        · exact hn j hj hj2
        · cases hoj : occAt u sep j with
          | false => rfl
          | true =>
            rcases occAt_room hoj with h' | h'
            · omega
            · exact absurd h' sep_ne
    · rw [if_neg hle] at hli; exact absurd rfl hli
  obtain ⟨i, ei, ho, hn⟩ := hlast
  have hroom : i + 2 ≤ u.length := by
    rcases occAt_room ho with h' | h'
    · simpa [sep] using h'
    · exact absurd h' sep_ne
  have hoo := (occ_iff u i).1 ho
  refine ⟨i + 2, by omega, hroom, by rw [hx, ei, Int.toNat_natCast], by simpa using hoo.1, by simpa using hoo.2, ?_⟩
  rw [index_none_iff]
  intro j
  have := (noOcc_iff u (i + 1 + j)).1 (hn _ (by omega))
  rw [show i + 2 - 1 = i + 1 from rfl, List.getElem?_drop, List.getElem?_drop]
  exact this

theorem ren_empty (u name : List UInt8) (ht : typeL u = []) : renL u name = u := by unfold renL; rw [if_pos ht]

end Go.Proofs.Qxb6603167aDoor.Plain
