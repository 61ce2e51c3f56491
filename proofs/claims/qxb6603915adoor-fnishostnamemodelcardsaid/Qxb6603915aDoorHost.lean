/-
  THE WALKS of seat b6603915aD, second text: isHostname, and the law.
-/
import Derived.Test.Qxb6603915aDoorWalks
namespace Go.Proofs.Qxb6603915aDoor
open Go.RowKit Go.Lib Plain

theorem getAt (s : ByteArray) (k : Nat) (h : k < s.size) : s.data.toList[k]? = some s[k] := by
  rw [List.getElem?_eq_getElem (by simpa using h)]; rfl
theorem nil_of_size {s : ByteArray} (h : s.size = 0) : s.data.toList = [] := List.eq_nil_of_length_eq_zero (by rw [show s.data.toList.length = s.size by simp]; exact h)
theorem ne_of_size {s : ByteArray} (h : 0 < s.size) : s.data.toList ≠ [] := fun e => by
  have : s.data.toList.length = s.size := by simp
  rw [e] at this; simp at this; omega

/-- All pieces. -/
theorem host_of (s : ByteArray) (h1 : 1 ≤ s.size) (h2 : s.size ≤ 253) : hostL s.data.toList = (splitB ⟨#[46]⟩ 0 (countB s ⟨#[46]⟩) s).all fun p => labelOK p.data.toList := by
  unfold hostL
  have e : s.data.toList.length = s.size := by simp
  have n : s.data.toList.isEmpty = false := by rw [List.isEmpty_eq_false_iff]; exact ne_of_size (by omega)
  rw [n, e, decide_eq_true h2]
  have hd : (splitB ⟨#[46]⟩ 0 (countB s ⟨#[46]⟩) s).map (·.data.toList) = split s.data.toList dot := splitB_data ⟨#[46]⟩ 0 (countB s ⟨#[46]⟩) s
  rw [← hd, List.all_map]; rfl
theorem host_out (s : ByteArray) (h : ¬ (1 ≤ s.size ∧ s.size ≤ 253)) : hostL s.data.toList = false := by
  unfold hostL
  have e : s.data.toList.length = s.size := by simp
  by_cases h0 : s.size = 0
  · rw [nil_of_size h0]; rfl
  · have : decide (s.data.toList.length ≤ 253) = false := by rw [e]; simp; omega
    rw [this]; simp
theorem all_false {ps : List ByteArray} {k : Nat} {p : ByteArray} (hp : ps[k]? = some p) (h : labelOK p.data.toList = false) : (ps.all fun p => labelOK p.data.toList) = false := by
  rw [List.all_eq_false]; exact ⟨p, List.mem_of_getElem? hp, by rw [h]; simp⟩
theorem all_true {ps : List ByteArray} {n : Nat} (hn : ps.length = n) (h : ∀ p ∈ ps.take n, labelOK p.data.toList = true) : (ps.all fun p => labelOK p.data.toList) = true := by
  rw [List.all_eq_true]; intro p hp; exact h p (by rw [List.take_of_length_le (by omega)]; exact hp)
theorem take_more {ps : List ByteArray} {k : Nat} {p : ByteArray} (hp : ps[k]? = some p) (ht : ∀ q ∈ ps.take k, labelOK q.data.toList = true) (h : labelOK p.data.toList = true) : ∀ q ∈ ps.take (k + 1), labelOK q.data.toList = true := by
  obtain ⟨hk, e⟩ := List.getElem?_eq_some_iff.1 hp
  rw [List.take_succ_eq_append_getElem hk]
  intro q hq
  rcases List.mem_append.1 hq with hq | hq
  · exact ht q hq
  · rw [List.mem_singleton.1 hq, e]; exact h

theorem label_nil (p : ByteArray) (h : p.size = 0) : labelOK p.data.toList = false := by rw [nil_of_size h]; rfl
theorem label_long (p : ByteArray) (h : 63 < p.size) : labelOK p.data.toList = false := by
  unfold labelOK
  have e : p.data.toList.length = p.size := by simp
  have : decide (p.data.toList.length ≤ 63) = false := by rw [e]; simp; omega
  rw [this]; simp
theorem label_head (p : ByteArray) (h0 : 0 < p.size) (h : (p[0].toNat : Int) = 45) : labelOK p.data.toList = false := by
  unfold labelOK
  rw [List.head?_eq_getElem?, getAt p 0 h0, byteI (n := 45) (by decide) h]; simp
theorem label_last (p : ByteArray) (h0 : 0 < p.size) (h : (p[p.size - 1].toNat : Int) = 45) : labelOK p.data.toList = false := by
  unfold labelOK
  rw [List.getLast?_eq_getElem?, show p.data.toList.length = p.size by simp, getAt p _ (by omega), byteI (n := 45) (by decide) h]; simp
theorem label_byte (p : ByteArray) (j : Nat) (hj : j < p.size) (h : hostB (p[j].toNat : Int) = false) : labelOK p.data.toList = false := by
  unfold labelOK
  have : p.data.toList.all hostU = false := by
    rw [List.all_eq_false]; exact ⟨p[j], List.mem_of_getElem? (getAt p j hj), by show ¬ hostB (p[j].toNat : Int) = true; rw [h]; simp⟩
  rw [this]; simp
theorem label_good (p : ByteArray) (h0 : 0 < p.size) (h1 : p.size ≤ 63) (h2 : ¬ (p[0].toNat : Int) = 45) (h3 : ¬ (p[p.size - 1].toNat : Int) = 45) (h4 : ∀ b ∈ p.data.toList.take p.size, hostU b = true) : labelOK p.data.toList = true := by
  unfold labelOK
  have e : p.data.toList.length = p.size := by simp
  have n : p.data.toList.isEmpty = false := by rw [List.isEmpty_eq_false_iff]; exact ne_of_size h0
  have a : p.data.toList.all hostU = true := by
    rw [List.all_eq_true]; intro b hb; exact h4 b (by rw [List.take_of_length_le (by rw [e]; exact Nat.le_refl _)]; exact hb)
  rw [n, a, List.head?_eq_getElem?, getAt p 0 h0, List.getLast?_eq_getElem?, e, getAt p _ (by omega), decide_eq_true h1]
  have b1 : p[0] ≠ 45 := fun x => h2 (by rw [x]; rfl)
  have b2 : p[p.size - 1] ≠ 45 := fun x => h3 (by rw [x]; rfl)
  simp [b1, b2]
theorem take_byte (p : ByteArray) (j : Nat) (hj : j < p.size) (ht : ∀ b ∈ p.data.toList.take j, hostU b = true) (h : hostB (p[j].toNat : Int) = true) : ∀ b ∈ p.data.toList.take (j + 1), hostU b = true := by
  have hk : j < p.data.toList.length := by simpa using hj
  rw [List.take_succ_eq_append_getElem hk]
  intro q hq
  rcases List.mem_append.1 hq with hq | hq
  · exact ht q hq
  · rw [List.mem_singleton.1 hq]; exact h

theorem cells_of (w : World) (ps : List ByteArray) (t : TypeId) (k : Nat) (p : ByteArray) (hp : ps[k]? = some p) : (w.alloc (.cells (ps.map Value.string).toArray t)).cell? ⟨w.heap.size, k, none⟩ = some (.string p) := by
  rw [World.cell?_alloc_at (hn := rfl), List.getElem?_toArray, List.getElem?_map, hp]; rfl
theorem host_no {c : Int} (h : hostB c = false) : ¬ (97 ≤ c ∧ c ≤ 122) ∧ ¬ (65 ≤ c ∧ c ≤ 90) ∧ ¬ (48 ≤ c ∧ c ≤ 57) ∧ ¬ c = 45 := by
  refine ⟨fun x => ?_, fun x => ?_, fun x => ?_, fun x => ?_⟩ <;> (unfold hostB at h; simp [x] at h)
theorem host_yes {c : Int} (h : hostB c = true) : (97 ≤ c ∧ c ≤ 122) ∨ (65 ≤ c ∧ c ≤ 90) ∨ (48 ≤ c ∧ c ≤ 57) ∨ c = 45 := by
  unfold hostB at h
  simp only [Bool.or_eq_true, Bool.and_eq_true, decide_eq_true_eq, beq_iff_eq] at h
  omega

set_option maxHeartbeats 4000000 in
theorem host_any (s : ByteArray) (m : Int) (w : World) (hs : s.size ≤ 1048576) (hm : w.cell? ⟨0, 0, none⟩ = some (.int .i64 m)) :
    Calls Tryd.prog 7 #[.string s] w fun e w' => e = .returned (.bool (hostL s.data.toList)) ∧ Below w.heap.size w w' := by
  by_cases hg : 1 ≤ s.size ∧ s.size ≤ 253
  · have H1 := hide (host_of s hg.1 hg.2)
    obtain ⟨g1, g2⟩ := hg
    have hem : s.toList.isEmpty = false := by rw [List.isEmpty_eq_false_iff, ByteArray.toList_eq]; exact ne_of_size g1
    go_enter Tryd.func7, Tryd.ntmps7
    go_wp2_with fail
    refine (Tryd.strings_Split s ⟨#[46]⟩ m _ (by omega) hm (by decide)).mono ?_
    rintro e w1 ⟨rfl, hw⟩
    have hb : Below w.heap.size w w1 := by rw [hw]; exact (Below.refl _ _).alloc (Nat.le_refl _) _
    have HC : Hid (∀ k p, (splitB ⟨#[46]⟩ 0 (countB s ⟨#[46]⟩) s)[k]? = some p → w1.cell? ⟨w.heap.size, k, none⟩ = some (.string p)) := hide (by
      intro k p hp; rw [hw]; exact cells_of w _ 9 k p hp)
    have HL := hide (splitB_all ⟨#[46]⟩ (by decide) 0 _ s rfl)
    have hle := countB_le ⟨#[46]⟩ (by decide) _ s (Nat.le_refl _)
    clear hw
    generalize splitB ⟨#[46]⟩ 0 (countB s ⟨#[46]⟩) s = ps at *
    generalize countB s ⟨#[46]⟩ = n at *
    clear hm
    go_wp2
    go_loop [17] (fun ii => ∃ k : Nat, k ≤ n + 1 ∧ ii = .int .i64 k ∧ Hid (∀ p ∈ ps.take k, labelOK p.data.toList = true)) (fun i => n + 1 - (RowKit.intOf i).toNat)
    case atStart => exact ⟨0, Nat.zero_le _, rfl, hide (by simp)⟩
    case round =>
      obtain ⟨k, hk, rfl, HT⟩ := hrel
      by_cases hlt : k < n + 1
      · obtain ⟨p, hp⟩ : ∃ p, ps[k]? = some p := ⟨ps[k]'(by rw [unhide HL]; exact hlt), List.getElem?_eq_getElem _⟩
        have hc := unhide HC k p hp
        have HP := hide hp
        clear hp
        by_cases p0 : p.size = 0
        · have HF : Hid (hostL s.data.toList = false) := hide (by rw [unhide H1]; exact all_false (unhide HP) (label_nil p p0))
          have hpe : p.toList = [] := by rw [ByteArray.toList_eq]; exact nil_of_size p0
          clear HT HP HC HL H1
          go_wp2
          all_goals (go_ret; rw [unhide HF]; exact ⟨rfl, hb⟩)
        · have p1 : 0 < p.size := by omega
          have hpe : p.toList.isEmpty = false := by rw [List.isEmpty_eq_false_iff, ByteArray.toList_eq]; exact ne_of_size p1
          by_cases p63 : 63 < p.size
          · have HF : Hid (hostL s.data.toList = false) := hide (by rw [unhide H1]; exact all_false (unhide HP) (label_long p p63))
            clear HT HP HC HL H1 p0
            go_wp2
            all_goals (go_ret; rw [unhide HF]; exact ⟨rfl, hb⟩)
          · by_cases ph : (p[0].toNat : Int) = 45
            · have HF : Hid (hostL s.data.toList = false) := hide (by rw [unhide H1]; exact all_false (unhide HP) (label_head p p1 ph))
              clear HT HP HC HL H1 p0
              go_wp2
              all_goals (go_ret; rw [unhide HF]; exact ⟨rfl, hb⟩)
            · by_cases pl : (p[p.size - 1].toNat : Int) = 45
              · have HF : Hid (hostL s.data.toList = false) := hide (by rw [unhide H1]; exact all_false (unhide HP) (label_last p p1 pl))
                clear HT HP HC HL H1 p0
                go_wp2
                all_goals (go_ret; rw [unhide HF]; exact ⟨rfl, hb⟩)
              · have nh : ((p[0].toNat : Int) == 45) = false := by rw [beq_eq_false_iff_ne]; exact ph
                have nl : ((p[p.size - 1].toNat : Int) == 45) = false := by rw [beq_eq_false_iff_ne]; exact pl
                have HG := hide (label_good p p1 (by omega) ph pl)
                clear p0 ph pl
                go_wp2
                go_loop [43] (fun ii => ∃ j : Nat, j ≤ p.size ∧ ii = .int .i64 j ∧ Hid (∀ b ∈ p.data.toList.take j, hostU b = true)) (fun i => p.size - (RowKit.intOf i).toNat)
                case atStart => exact ⟨0, Nat.zero_le _, rfl, hide (by simp)⟩
                case round =>
                  obtain ⟨j, hj, rfl, HJ⟩ := hrel
                  by_cases hjl : j < p.size
                  · cases hh : hostB (p[j].toNat : Int) with
                    | false =>
                      have HF : Hid (hostL s.data.toList = false) := hide (by rw [unhide H1]; exact all_false (unhide HP) (label_byte p j hjl hh))
                      obtain ⟨c1, c2, c3, c4⟩ := host_no hh
                      have n45 : ((p[j].toNat : Int) == 45) = false := by rw [beq_eq_false_iff_ne]; exact c4
                      have hcls : 123 ≤ (p[j].toNat : Int) ∨ (91 ≤ (p[j].toNat : Int) ∧ (p[j].toNat : Int) ≤ 96) ∨ (58 ≤ (p[j].toNat : Int) ∧ (p[j].toNat : Int) ≤ 64) ∨ (46 ≤ (p[j].toNat : Int) ∧ (p[j].toNat : Int) ≤ 47) ∨ (p[j].toNat : Int) ≤ 44 := by omega
                      clear hh HT HP HC HL H1 HG HJ c1 c2 c3 c4
                      rcases hcls with c1 | ⟨c1, c2⟩ | ⟨c1, c2⟩ | ⟨c1, c2⟩ | c1
                      all_goals
                        go_wp2
                        all_goals first | (go_ret; rw [unhide HF]; exact ⟨rfl, hb⟩) | (exfalso; rename_i hx; simp at hx; omega)
                    | true =>
                      have HN := hide (take_byte p j hjl (unhide HJ) hh)
                      rcases host_yes hh with ⟨c1, c2⟩ | ⟨c1, c2⟩ | ⟨c1, c2⟩ | c1
                      all_goals
                        clear hh
                        go_wp2
                        go_round
                        case rel => exact ⟨j + 1, by omega, by go_num, HN⟩
                        case measure => simp [RowKit.intOf]; omega
                  · have HN := hide (take_more (unhide HP) (unhide HT) (unhide HG (by rw [show p.size = j by omega]; exact unhide HJ)))
                    go_wp2
                    go_round
                    case rel => exact ⟨k + 1, by omega, by go_num, HN⟩
                    case measure => simp [RowKit.intOf]; omega
      · have HF : Hid (hostL s.data.toList = true) := hide (by
          rw [unhide H1]; exact all_true (unhide HL) (by rw [show n + 1 = k by omega]; exact unhide HT))
        go_wp2
        go_ret
        rw [unhide HF]; exact ⟨rfl, hb⟩
  · rw [host_out s hg]
    by_cases h0 : s.size = 0
    · have hem : s.toList = [] := by rw [ByteArray.toList_eq]; exact nil_of_size h0
      go_enter Tryd.func7, Tryd.ntmps7
      go_wp2_with fail
      all_goals (go_ret; exact ⟨rfl, Below.refl _ _⟩)
    · have hem : s.toList.isEmpty = false := by rw [List.isEmpty_eq_false_iff, ByteArray.toList_eq]; exact ne_of_size (by omega)
      have h253 : 253 < s.size := by omega
      clear hg
      go_enter Tryd.func7, Tryd.ntmps7
      go_wp2_with fail
      all_goals (go_ret; exact ⟨rfl, Below.refl _ _⟩)

set_option maxHeartbeats 400000 in
theorem zhost_any (s : ByteArray) (m : Int) (w : World) (hs : s.size ≤ 1048576) (hm : w.cell? ⟨0, 0, none⟩ = some (.int .i64 m)) :
    Calls Tryd.prog 5 #[.string s] w fun e w' => e = .returned (.bool (hostL s.data.toList)) ∧ Below w.heap.size w w' := by
  have C7 := hide (host_any s m w hs hm)
  go_enter Tryd.func5, Tryd.ntmps5
  go_wp2_with fail
  refine (unhide C7).mono ?_
  rintro e w1 ⟨rfl, hb⟩
  go_wp2
  go_ret
  exact ⟨rfl, hb⟩

set_option maxHeartbeats 400000 in
/-- THE LAW's WALK. -/
theorem law3 (s : ByteArray) (m : Int) (w : World) (hx : s.size ≤ maxLen) (hm : w.cell? ⟨0, 0, none⟩ = some (.int .i64 m)) :
    Calls Tryd.prog 3 #[.string s] w fun e w' => e = .returned (.bool true) ∧ Below w.heap.size w w' := by
  by_cases hs : s.size ≤ 1048576
  · have C4 := hide (bytes4 s w hs)
    have C5 := hide (zhost_any s m w hs hm)
    have C6 := hide (fun w => model_any s w hs)
    have HL := hide (host_eq_model s.data.toList)
    go_enter Tryd.func3, Tryd.ntmps3
    go_wp2_with fail
    refine (unhide C4).mono ?_
    rintro e w1 ⟨rfl, rfl⟩
    go_wp2_with fail
    refine (unhide C5).mono ?_
    rintro e w2 ⟨rfl, hb⟩
    go_wp2_with fail
    refine (unhide C6 _).mono ?_
    rintro e w3 ⟨rfl, rfl⟩
    rw [unhide HL]
    go_wp2
    go_ret
    exact ⟨by simp, hb⟩
  · have C4 := hide (bytes4_no s w (by omega) hx)
    go_enter Tryd.func3, Tryd.ntmps3
    go_wp2_with fail
    refine (unhide C4).mono ?_
    rintro e w1 ⟨rfl, rfl⟩
    go_wp2
    go_ret
    exact ⟨rfl, Below.refl _ _⟩

end Go.Proofs.Qxb6603915aDoor
