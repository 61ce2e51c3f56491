/-
  THE WALKS of seat b6603916aD, fourth text: zzDecimalModel's loop: a state machine that fills three slices.
-/
import Derived.Test.Qxb6603916aDoorAgree
import Derived.Maps.AppendAt
namespace Go.Proofs.Qxb6603916aDoor
open Go.RowKit Go.Lib Plain

abbrev bv (b : UInt8) : Value := .int .u8 (b.toNat : Int)
theorem Tryd.info5 : (Tryd.prog.info? 5).map (fun i => (i.zero, i.size, i.bytes)) = some (some (.int .u8 0), 1, 1) := by kernel_rfl

/-- The three rows that the model fills, and all that was there before. -/
def Own3 (w wr : World) (B b1 b2 b3 cap : Nat) (x y z : List UInt8) : Prop :=
  wr.ownsRow B 5 1 (.slice (some ⟨b1, 0, none⟩) x.length cap) x.length (x.map bv) ∧
  wr.ownsRow B 5 1 (.slice (some ⟨b2, 0, none⟩) y.length cap) y.length (y.map bv) ∧
  wr.ownsRow B 5 1 (.slice (some ⟨b3, 0, none⟩) z.length cap) z.length (z.map bv) ∧ Below B w wr

theorem Own3.bases {w wr : World} {B b1 b2 b3 cap : Nat} {x y z : List UInt8} (h : Own3 w wr B b1 b2 b3 cap x y z) : B ≤ b1 ∧ B ≤ b2 ∧ B ≤ b3 ∧ b1 < wr.heap.size ∧ b2 < wr.heap.size ∧ b3 < wr.heap.size :=
  ⟨(h.1.lt b1 rfl).1, (h.2.1.lt b2 rfl).1, (h.2.2.1.lt b3 rfl).1, (h.1.lt b1 rfl).2, (h.2.1.lt b2 rfl).2, (h.2.2.1.lt b3 rfl).2⟩
theorem Own3.x {w wr w1 : World} {o : Obj} {B b1 b2 b3 cap : Nat} {x y z : List UInt8} (h : Own3 w wr B b1 b2 b3 cap x y z) (h12 : b1 ≠ b2) (h13 : b1 ≠ b3) (hB : B ≤ wr.heap.size) (c : UInt8)
    (ho : w1.ownsRow B 5 1 (.slice (some ⟨b1, 0, none⟩) (x.length + 1) cap) (x.length + 1) (x.map bv ++ [bv c])) (hg : (wr.alloc o).grownBy w1 (some b1)) : Own3 w w1 B b1 b2 b3 cap (x ++ [c]) y z := by
  refine ⟨?_, ?_, ?_, ?_⟩
  · simpa using ho
  · exact (h.2.1.alloc o).kept hg (.inr (by simp [Value.ownBlock]; omega))
  · exact (h.2.2.1.alloc o).kept hg (.inr (by simp [Value.ownBlock]; omega))
  · exact (h.2.2.2.alloc hB o).grown hg (by simp; omega) (fun k e => by cases e; exact h.bases.1)
theorem Own3.y {w wr w1 : World} {o : Obj} {B b1 b2 b3 cap : Nat} {x y z : List UInt8} (h : Own3 w wr B b1 b2 b3 cap x y z) (h12 : b1 ≠ b2) (h23 : b2 ≠ b3) (hB : B ≤ wr.heap.size) (c : UInt8)
    (ho : w1.ownsRow B 5 1 (.slice (some ⟨b2, 0, none⟩) (y.length + 1) cap) (y.length + 1) (y.map bv ++ [bv c])) (hg : (wr.alloc o).grownBy w1 (some b2)) : Own3 w w1 B b1 b2 b3 cap x (y ++ [c]) z := by
  refine ⟨?_, ?_, ?_, ?_⟩
  · exact (h.1.alloc o).kept hg (.inr (by simp [Value.ownBlock]; omega))
  · simpa using ho
  · exact (h.2.2.1.alloc o).kept hg (.inr (by simp [Value.ownBlock]; omega))
  · exact (h.2.2.2.alloc hB o).grown hg (by simp; omega) (fun k e => by cases e; exact h.bases.2.1)
theorem Own3.z {w wr w1 : World} {o : Obj} {B b1 b2 b3 cap : Nat} {x y z : List UInt8} (h : Own3 w wr B b1 b2 b3 cap x y z) (h13 : b1 ≠ b3) (h23 : b2 ≠ b3) (hB : B ≤ wr.heap.size) (c : UInt8)
    (ho : w1.ownsRow B 5 1 (.slice (some ⟨b3, 0, none⟩) (z.length + 1) cap) (z.length + 1) (z.map bv ++ [bv c])) (hg : (wr.alloc o).grownBy w1 (some b3)) : Own3 w w1 B b1 b2 b3 cap x y (z ++ [c]) := by
  refine ⟨?_, ?_, ?_, ?_⟩
  · exact (h.1.alloc o).kept hg (.inr (by simp [Value.ownBlock]; omega))
  · exact (h.2.1.alloc o).kept hg (.inr (by simp [Value.ownBlock]; omega))
  · simpa using ho
  · exact (h.2.2.2.alloc hB o).grown hg (by simp; omega) (fun k e => by cases e; exact h.bases.2.2.1)

theorem trim_snoc (W : List UInt8) (c : UInt8) : trimLeftB (W ++ [c]) 48 = if trimLeftB W 48 = [] then (if c = 48 then [] else [c]) else trimLeftB W 48 ++ [c] := by
  unfold trimLeftB
  induction W with
  | nil => by_cases h : c = 48 <;> simp [h]
  | cons a t ih =>
    by_cases ha : a = 48
    · simp [ha]; simpa using ih
    · simp [ha]
theorem trim_keep (W : List UInt8) (c : UInt8) (h : trimLeftB W 48 ≠ [] ∨ c ≠ 48) : trimLeftB (W ++ [c]) 48 = trimLeftB W 48 ++ [c] := by
  rw [trim_snoc]
  by_cases e : trimLeftB W 48 = []
  · have hc : c ≠ 48 := by rcases h with h | h; exact absurd e h; exact h
    rw [if_pos e, if_neg hc, e]; rfl
  · rw [if_neg e]
theorem trim_zero (W : List UInt8) (h : trimLeftB W 48 = []) : trimLeftB (W ++ [48]) 48 = [] := by
  rw [trim_snoc, if_pos h, if_pos rfl]

/-- What the loop's slots hold when k bytes are read. -/
def Rel (s : ByteArray) (w : World) (B b1 b2 b3 : Nat) (v5 v6 v7 v8 v9 v10 v11 v12 v13 : Value) (wr : World) : Prop :=
  ∃ (k q : Nat) (neg pt he : Bool) (W F E X : List UInt8), k ≤ s.size ∧ v5 = .int .i64 q ∧ v6 = .bool neg ∧ v7 = .bool pt ∧ v8 = .bool he ∧ v9 = .int .i64 ((W.length : Int) + (F.length : Int)) ∧
    v10 = .slice (some ⟨b1, 0, none⟩) X.length s.size ∧ v11 = .slice (some ⟨b2, 0, none⟩) F.length s.size ∧ v12 = .slice (some ⟨b3, 0, none⟩) E.length s.size ∧ v13 = .int .i64 k ∧
    Own3 w wr B b1 b2 b3 s.size X F E ∧ W.length + F.length + E.length + neg.toNat + pt.toNat + he.toNat ≤ k ∧ X.length ≤ W.length ∧ q ≤ 7 ∧
    (F ≠ [] → pt = true) ∧ (q ≤ 1 → W = []) ∧ (q = 3 → pt = true) ∧ X = trimLeftB W 48 ∧ run (s.data.toList.drop k) ⟨q, neg, pt, he, W, F, E⟩ = run s.data.toList st0

/-- One round that goes on. -/
theorem Rel.next {s : ByteArray} {w wr : World} {B b1 b2 b3 : Nat} (k q : Nat) (neg pt he : Bool) (W F E X : List UInt8) {q0 : Nat} {neg0 pt0 he0 : Bool} {W0 F0 E0 : List UInt8} (hk : k < s.size)
    (own : Own3 w wr B b1 b2 b3 s.size X F E) (hsum : W.length + F.length + E.length + neg.toNat + pt.toNat + he.toNat ≤ k + 1) (hX : X = trimLeftB W 48) (hXW : X.length ≤ W.length) (hq : q ≤ 7)
    (hF : F ≠ [] → pt = true) (hW : q ≤ 1 → W = []) (hP : q = 3 → pt = true) (hr : run (s.data.toList.drop k) ⟨q0, neg0, pt0, he0, W0, F0, E0⟩ = run s.data.toList st0)
    (hs : Plain.step ⟨q0, neg0, pt0, he0, W0, F0, E0⟩ s[k] = some ⟨q, neg, pt, he, W, F, E⟩)
    {v5 v6 v7 v8 v9 v10 v11 v12 v13 : Value} (h5 : v5 = .int .i64 q) (h6 : v6 = .bool neg) (h7 : v7 = .bool pt) (h8 : v8 = .bool he) (h9 : v9 = .int .i64 ((W.length : Int) + (F.length : Int)))
    (h10 : v10 = .slice (some ⟨b1, 0, none⟩) X.length s.size) (h11 : v11 = .slice (some ⟨b2, 0, none⟩) F.length s.size) (h12 : v12 = .slice (some ⟨b3, 0, none⟩) E.length s.size) (h13 : v13 = .int .i64 ((k : Int) + 1)) :
    Rel s w B b1 b2 b3 v5 v6 v7 v8 v9 v10 v11 v12 v13 wr :=
  ⟨k + 1, q, neg, pt, he, W, F, E, X, hk, h5, h6, h7, h8, h9, h10, h11, h12, by rw [h13]; simp, own, hsum, hXW, hq, hF, hW, hP, hX, by
    rw [← hr, drop_at s k hk, run_cons, hs]; rfl⟩
theorem run_stop {s : ByteArray} {k : Nat} {st : St} (hk : k < s.size) (hr : run (s.data.toList.drop k) st = run s.data.toList st0) (hs : Plain.step st s[k] = none) : decL s.data.toList = none := by
  rw [dec_eq_model]; unfold modelL
  rw [← hr, drop_at s k hk, run_cons, hs]; rfl

theorem trim_len (W : List UInt8) : (trimLeftB W 48).length ≤ W.length := (List.dropWhile_suffix _).length_le

section
variable (q : Nat) (neg pt he : Bool) (W F E : List UInt8) (c : UInt8)
theorem st_minus : Plain.step ⟨0, neg, pt, he, W, F, E⟩ 45 = some ⟨1, true, pt, he, W, F, E⟩ := by simp [Plain.step]
theorem st_plus : Plain.step ⟨0, neg, pt, he, W, F, E⟩ 43 = some ⟨1, neg, pt, he, W, F, E⟩ := by simp [Plain.step]
theorem dig_ne (h : dig c = true) : c ≠ 45 ∧ c ≠ 43 ∧ c ≠ 46 ∧ c ≠ 101 ∧ c ≠ 69 := by
  refine ⟨?_, ?_, ?_, ?_, ?_⟩ <;> (rintro rfl; exact absurd h (by decide))
theorem st_dig01 (hq : q ≤ 1) (h : dig c = true) : Plain.step ⟨q, neg, pt, he, W, F, E⟩ c = some ⟨2, neg, pt, he, W ++ [c], F, E⟩ := by
  have := dig_ne c h
  simp [Plain.step, hq, h, this.1, this.2.1]
theorem st_dot01 (hq : q ≤ 1) : Plain.step ⟨q, neg, pt, he, W, F, E⟩ 46 = some ⟨3, neg, true, he, W, F, E⟩ := by
  simp [Plain.step, hq, not_dig_dot]
theorem st_no01 (hq : q ≤ 1) (h : dig c = false) (h46 : c ≠ 46) (h0 : q = 0 → c ≠ 45 ∧ c ≠ 43) : Plain.step ⟨q, neg, pt, he, W, F, E⟩ c = none := by
  have a : ¬ (q = 0 ∧ c = 45) := fun ⟨x, y⟩ => (h0 x).1 y
  have b : ¬ (q = 0 ∧ c = 43) := fun ⟨x, y⟩ => (h0 x).2 y
  simp [Plain.step, hq, h, h46, a, b]
theorem st_dig2 (h : dig c = true) : Plain.step ⟨2, neg, pt, he, W, F, E⟩ c = some ⟨2, neg, pt, he, W ++ [c], F, E⟩ := by simp [Plain.step, h]
theorem st_dot2 : Plain.step ⟨2, neg, pt, he, W, F, E⟩ 46 = some ⟨3, neg, true, he, W, F, E⟩ := by simp [Plain.step, not_dig_dot]
theorem st_e2 (h : c = 101 ∨ c = 69) : Plain.step ⟨2, neg, pt, he, W, F, E⟩ c = some ⟨5, neg, pt, true, W, F, E⟩ := by
  have n46 : c ≠ 46 := by rcases h with rfl | rfl <;> decide
  simp [Plain.step, not_dig_e h, n46, h]
theorem st_no2 (h : dig c = false) (h46 : c ≠ 46) (he' : ¬ (c = 101 ∨ c = 69)) : Plain.step ⟨2, neg, pt, he, W, F, E⟩ c = none := by simp [Plain.step, h, h46, he']
theorem st_dig3 (h : dig c = true) : Plain.step ⟨3, neg, pt, he, W, F, E⟩ c = some ⟨3, neg, pt, he, W, F ++ [c], E⟩ := by simp [Plain.step, h]
theorem st_e3 (h : c = 101 ∨ c = 69) : Plain.step ⟨3, neg, pt, he, W, F, E⟩ c = some ⟨5, neg, pt, true, W, F, E⟩ := by simp [Plain.step, not_dig_e h, h]
theorem st_no3 (h : dig c = false) (he' : ¬ (c = 101 ∨ c = 69)) : Plain.step ⟨3, neg, pt, he, W, F, E⟩ c = none := by simp [Plain.step, h, he']
theorem st_sgn5 (h : c = 43 ∨ c = 45) : Plain.step ⟨5, neg, pt, he, W, F, E⟩ c = some ⟨6, neg, pt, he, W, F, E ++ [c]⟩ := by simp [Plain.step, h]
theorem st_dig5 (h : dig c = true) : Plain.step ⟨5, neg, pt, he, W, F, E⟩ c = some ⟨7, neg, pt, he, W, F, E ++ [c]⟩ := by
  have := dig_ne c h
  simp [Plain.step, h, this.1, this.2.1]
theorem st_no5 (h : dig c = false) (hs : ¬ (c = 43 ∨ c = 45)) : Plain.step ⟨5, neg, pt, he, W, F, E⟩ c = none := by simp [Plain.step, h, hs]
theorem st_dig7 (h1 : ¬ q ≤ 1) (h2 : q ≠ 2) (h3 : q ≠ 3) (h5 : q ≠ 5) (h : dig c = true) : Plain.step ⟨q, neg, pt, he, W, F, E⟩ c = some ⟨7, neg, pt, he, W, F, E ++ [c]⟩ := by simp [Plain.step, h1, h2, h3, h5, h]
theorem st_no7 (h1 : ¬ q ≤ 1) (h2 : q ≠ 2) (h3 : q ≠ 3) (h5 : q ≠ 5) (h : dig c = false) : Plain.step ⟨q, neg, pt, he, W, F, E⟩ c = none := by simp [Plain.step, h1, h2, h3, h5, h]
end
theorem eqI {b : UInt8} {n : Nat} (h : b = n.toUInt8) (hn : n < 256) : ((b.toNat : Int) == (n : Int)) = true := by
  rw [beq_iff_eq, h]; simp; omega
theorem neI {b : UInt8} {n : Nat} (h : b ≠ n.toUInt8) (hn : n < 256) : ((b.toNat : Int) == (n : Int)) = false := by
  rw [beq_eq_false_iff_ne]; intro e; exact h (byteI hn e)
theorem neI' {b : UInt8} {n : Nat} (h : b ≠ n.toUInt8) (hn : n < 256) : ((b.toNat : Int) != (n : Int)) = true := by
  rw [bne_iff_ne]; intro e; exact h (byteI hn e)
theorem eqI' {b : UInt8} {n : Nat} (h : b = n.toUInt8) (hn : n < 256) : ((b.toNat : Int) != (n : Int)) = false := by
  rw [bne_eq_false_iff_eq, h]; simp; omega

/-- .. and the fourth row, the answer's. -/
def Own4 (w wr : World) (B b1 b2 b3 cap : Nat) (x y z : List UInt8) (bo co n : Nat) (o : List UInt8) : Prop :=
  (Own3 w wr B b1 b2 b3 cap x y z ∧ b1 ≠ bo ∧ b2 ≠ bo ∧ b3 ≠ bo) ∧ wr.ownsRow B 5 1 (.slice (some ⟨bo, 0, none⟩) n co) n (o.map bv)
section
variable {w wr w1 : World} {ob : Obj} {B b1 b2 b3 cap : Nat} {x y z : List UInt8} {bo co n : Nat} {o : List UInt8}
theorem Own4.len (h : Own4 w wr B b1 b2 b3 cap x y z bo co n o) : n = o.length := by
  have := h.2.1; simpa using this.symm
theorem Own3.kept4 (h : Own3 w wr B b1 b2 b3 cap x y z) (hg : wr.grownBy w1 (some bo)) (hb : B ≤ bo) (n1 : b1 ≠ bo) (n2 : b2 ≠ bo) (n3 : b3 ≠ bo) (hB : B ≤ wr.heap.size) : Own3 w w1 B b1 b2 b3 cap x y z :=
  ⟨h.1.kept hg (.inr (by simp [Value.ownBlock]; omega)), h.2.1.kept hg (.inr (by simp [Value.ownBlock]; omega)), h.2.2.1.kept hg (.inr (by simp [Value.ownBlock]; omega)),
    h.2.2.2.grown hg hB (fun k e => by cases e; exact hb)⟩
theorem Own3.alloc (h : Own3 w wr B b1 b2 b3 cap x y z) (hB : B ≤ wr.heap.size) (ob : Obj) : Own3 w (wr.alloc ob) B b1 b2 b3 cap x y z :=
  ⟨h.1.alloc ob, h.2.1.alloc ob, h.2.2.1.alloc ob, h.2.2.2.alloc hB ob⟩
theorem Own4.bo_le (h : Own4 w wr B b1 b2 b3 cap x y z bo co n o) : B ≤ bo ∧ bo < wr.heap.size := h.2.lt bo rfl
theorem Own4.put (h : Own4 w wr B b1 b2 b3 cap x y z bo co n o) (c : UInt8) (ho : w1.ownsRow B 5 1 (.slice (some ⟨bo, 0, none⟩) (n + 1) co) (n + 1) (o.map bv ++ [bv c])) (hg : (wr.alloc ob).grownBy w1 (some bo)) :
    Own4 w w1 B b1 b2 b3 cap x y z bo co (n + 1) (o ++ [c]) := by
  have hb := h.bo_le
  refine ⟨⟨(h.1.1.alloc (by omega) ob).kept4 hg hb.1 h.1.2.1 h.1.2.2.1 h.1.2.2.2 (by simp; omega), h.1.2⟩, ?_⟩
  rw [List.map_append]; exact ho
theorem Own4.puts (h : Own4 w wr B b1 b2 b3 cap x y z bo co n o) (l : List UInt8) (m : Nat) (ho : w1.ownsRow B 5 1 (.slice (some ⟨bo, 0, none⟩) (n + m) co) (n + m) (o.map bv ++ l.map bv)) (hg : wr.grownBy w1 (some bo)) :
    Own4 w w1 B b1 b2 b3 cap x y z bo co (n + m) (o ++ l) := by
  have hb := h.bo_le
  refine ⟨⟨h.1.1.kept4 hg hb.1 h.1.2.1 h.1.2.2.1 h.1.2.2.2 (by omega), h.1.2⟩, ?_⟩
  rw [List.map_append]; exact ho
theorem ones (l : List UInt8) : ∀ u ∈ l.map bv, u.oneCell' = true := by
  intro u hu; obtain ⟨b, _, rfl⟩ := List.mem_map.1 hu; rfl
theorem Own4.start (h : Own3 w wr B b1 b2 b3 cap x y z) (hm : w1.ownsRow B 5 1 (.slice (some ⟨wr.heap.size, 0, none⟩) 0 co) 0 []) (hg : wr.grownBy w1 none) : Own4 w w1 B b1 b2 b3 cap x y z wr.heap.size co 0 [] := by
  have hb := h.bases
  refine ⟨⟨⟨h.1.kept hg (.inr (by simp [Value.ownBlock])), h.2.1.kept hg (.inr (by simp [Value.ownBlock])), h.2.2.1.kept hg (.inr (by simp [Value.ownBlock])), h.2.2.2.grown hg (by omega) (fun _ e => by cases e)⟩, by omega, by omega, by omega⟩, ?_⟩
  simpa using hm
theorem Own4.convert (h : Own4 w wr B b1 b2 b3 cap x y z bo co n o) : (Go.convert 28 9 (.slice (some ⟨bo, 0, none⟩) n co)).run Tryd.prog wr = .ok (.string ⟨o.toArray⟩) wr := by
  have hl := h.len
  subst hl
  refine run_convert_bytes_back wr 28 9 5 ⟨bo, 0, none⟩ co o Tryd.underlying28 Tryd.underlying5 Tryd.underlying9 fun j hj => ?_
  exact h.2.cells (g := bo) rfl j _ (by simp [hj])
end

set_option linter.unusedVariables false in
set_option linter.unusedSimpArgs false in
set_option maxRecDepth 100000 in
set_option maxHeartbeats 40000000 in
theorem model_any (s : ByteArray) (w : World) (hs : s.size ≤ 1048576) :
    Calls Tryd.prog 7 #[.string s] w fun e w' => e = .returned (.tuple #[.string (numB s), .bool (intB s), .bool (okB s)]) ∧ Below w.heap.size w w' := by
  obtain ⟨i0, hi, hz0, hz1, hz2⟩ := info_parts Tryd.info5
  have C9 := hide isDigit_any
  go_enter Tryd.func7, Tryd.ntmps7
  go_wp2_with (first
    | (at_make; refine wpList_make_own _ rfl (.const (.int .i64 0)) (.tmp 18) 28 rfl w.heap.size 5 i0 (.int .u8 0) 1 Tryd.underlying28 hi hz0 hz1 .i64 .i64 _ s.size rfl rfl (by rfl) (by rw [hz2]; omega) (by unfold maxLen; omega) (Nat.le_refl _) ?_; intro w1 hown1 hgrow1)
    | (at_make; refine wpList_make_own _ rfl (.const (.int .i64 0)) (.tmp 21) 28 rfl w.heap.size 5 i0 (.int .u8 0) 1 Tryd.underlying28 hi hz0 hz1 .i64 .i64 _ s.size rfl rfl (by rfl) (by rw [hz2]; omega) (by unfold maxLen; omega) (hgrow1.size) ?_; intro w2 hown2 hgrow2)
    | (at_make; refine wpList_make_own _ rfl (.const (.int .i64 0)) (.tmp 24) 28 rfl w.heap.size 5 i0 (.int .u8 0) 1 Tryd.underlying28 hi hz0 hz1 .i64 .i64 _ s.size rfl rfl (by rfl) (by rw [hz2]; omega) (by unfold maxLen; omega) (Nat.le_trans hgrow1.size hgrow2.size) ?_; intro w3 hown3 hgrow3))
  have OWN : Hid (Own3 w w3 w.heap.size w.heap.size w1.heap.size w2.heap.size s.size [] [] []) := hide
    ⟨(hown1.kept hgrow2 (.inr (by simp [Value.ownBlock]))).kept hgrow3 (.inr (by simp [Value.ownBlock])), hown2.kept hgrow3 (.inr (by simp [Value.ownBlock])), hown3,
      (((Below.refl _ w).grown hgrow1 (Nat.le_refl _) (fun _ e => by cases e)).grown hgrow2 hgrow1.size (fun _ e => by cases e)).grown hgrow3 (Nat.le_trans hgrow1.size hgrow2.size) (fun _ e => by cases e)⟩
  have d12 : w.heap.size ≠ w1.heap.size := by have := (hown1.lt w.heap.size rfl).2; omega
  have d23 : w1.heap.size ≠ w2.heap.size := by have := (hown2.lt w1.heap.size rfl).2; omega
  have d13 : w.heap.size ≠ w2.heap.size := by have := (hown1.lt w.heap.size rfl).2; have := (hown2.lt w1.heap.size rfl).2; omega
  clear hown1 hown2 hown3 hgrow1 hgrow2 hgrow3
  generalize w1.heap.size = b2 at *
  generalize w2.heap.size = b3 at *
  go_loopw [5, 6, 7, 8, 9, 10, 11, 12, 13] (fun v5 v6 v7 v8 v9 v10 v11 v12 v13 wr => Rel s w w.heap.size w.heap.size b2 b3 v5 v6 v7 v8 v9 v10 v11 v12 v13 wr) (fun _ _ _ _ _ _ _ _ i _ => s.size - (RowKit.intOf i).toNat)
  case atStart => exact ⟨0, 0, false, false, false, [], [], [], [], Nat.zero_le _, rfl, rfl, rfl, rfl, rfl, rfl, rfl, rfl, rfl, unhide OWN, by simp, by simp, by omega, fun h => absurd rfl h, fun _ => rfl, fun h => by omega, rfl, rfl⟩
  case round =>
    clear OWN
    obtain ⟨k, q, neg, pt, he, W, F, E, X, hk, rfl, rfl, rfl, rfl, rfl, rfl, rfl, rfl, rfl, own, hsum, hXW, hq, hF0, hW0, hP0, hX0, hr0⟩ := hrel
    have OWN := hide own
    have hBw : w.heap.size ≤ wr.heap.size := own.2.2.2.size
    have HF := hide hF0
    have HW := hide hW0
    have HP := hide hP0
    have HX := hide hX0
    have HR := hide hr0
    clear hF0 hW0 hP0 hX0 hr0
    by_cases hlt : k < s.size
    · by_cases q0 : q = 0
      · subst q0
        cases hd : dig s[k] with
        | true =>
          have HD : Hid (digI (s[k].toNat : Int) = true) := hide (by rw [digI_of]; exact hd)
          by_cases e48 : s[k] = 48
          · have n45 := (dig_ne _ hd).1
            have n43 := (dig_ne _ hd).2.1
            have f45 : ((s[k].toNat : Int) == 45) = false := neI (n := 45) n45 (by decide)
            have f43 : ((s[k].toNat : Int) == 43) = false := neI (n := 43) n43 (by decide)
            have g48 : ((s[k].toNat : Int) != 48) = false := eqI' (n := 48) e48 (by decide)
            have E48 := hide e48
            clear e48
            clear n45 n43
            go_wp2_with fail
            refine (unhide C9 _ _).mono ?_
            rintro e w4 ⟨rfl, rfl⟩
            rw [unhide HD]
            go_wp2
            go_roundw
            case rel => exact Rel.next k 2 neg pt he (W ++ [s[k]]) F E X hlt (unhide OWN) (by first | omega | (simp; omega)) (show X = trimLeftB (W ++ [s[k]]) 48 by rw [unhide E48, trim_zero W (by rw [unhide HW (by omega)]; rfl), unhide HX, unhide HW (by omega)]; rfl) (Nat.le_trans (Nat.le_of_eq (congrArg List.length (show X = trimLeftB (W ++ [s[k]]) 48 by rw [unhide E48, trim_zero W (by rw [unhide HW (by omega)]; rfl), unhide HX, unhide HW (by omega)]; rfl))) (trim_len _)) (by omega) (unhide HF) (fun h => by omega) (fun h => by omega) (unhide HR) (st_dig01 0 neg pt he W F E s[k] (by omega : 0 ≤ 1) hd) (by first | rfl | go_num | simp) (by first | rfl | simp) (by first | rfl | simp) (by first | rfl | simp) (by first | rfl | go_num | (simp; omega)) (by first | rfl | simp) (by first | rfl | simp) (by first | rfl | simp) (by first | rfl | go_num | simp)
            case measure => simp [RowKit.intOf]; omega
          · have n45 := (dig_ne _ hd).1
            have n43 := (dig_ne _ hd).2.1
            have f45 : ((s[k].toNat : Int) == 45) = false := neI (n := 45) n45 (by decide)
            have f43 : ((s[k].toNat : Int) == 43) = false := neI (n := 43) n43 (by decide)
            have g48 : ((s[k].toNat : Int) != 48) = true := neI' (n := 48) e48 (by decide)
            clear n45 n43
            go_wp2_with fail
            refine (unhide C9 _ _).mono ?_
            rintro e w4 ⟨rfl, rfl⟩
            rw [unhide HD]
            go_wp2_with (at_builtin; refine wpList_append_fits _ rfl _ _ 28 rfl w.heap.size 5 i0 1 Tryd.underlying28 hi hz1 (w.heap.size) X.length s.size _ rfl ((own.1).alloc _) ⟨w4.heap.size, 0, none⟩ 1 1 [bv s[k]] rfl rfl (cell_one_new _ _ _) (by intro u hu; simp at hu; subst hu; rfl) (by omega) ?_; intro w5 hown5 hgrow5)
            go_wp2
            go_roundw
            case rel => exact Rel.next k 2 neg pt he (W ++ [s[k]]) F E (X ++ [s[k]]) hlt ((unhide OWN).x d12 d13 hBw s[k] hown5 hgrow5) (by first | omega | (simp; omega)) (show X ++ [s[k]] = trimLeftB (W ++ [s[k]]) 48 by rw [trim_keep W s[k] (.inr e48), ← unhide HX]) (Nat.le_trans (Nat.le_of_eq (congrArg List.length (show X ++ [s[k]] = trimLeftB (W ++ [s[k]]) 48 by rw [trim_keep W s[k] (.inr e48), ← unhide HX]))) (trim_len _)) (by omega) (unhide HF) (fun h => by omega) (fun h => by omega) (unhide HR) (st_dig01 0 neg pt he W F E s[k] (by omega : 0 ≤ 1) hd) (by first | rfl | go_num | simp) (by first | rfl | simp) (by first | rfl | simp) (by first | rfl | simp) (by first | rfl | go_num | (simp; omega)) (by first | rfl | simp) (by first | rfl | simp) (by first | rfl | simp) (by first | rfl | go_num | simp)
            case measure => simp [RowKit.intOf]; omega
        | false =>
          have HD : Hid (digI (s[k].toNat : Int) = false) := hide (by rw [digI_of]; exact hd)
          by_cases e45 : s[k] = 45
          · have f45 : ((s[k].toNat : Int) == 45) = true := eqI (n := 45) e45 (by decide)
            have E45 := hide e45
            clear e45
            go_wp2_with fail
            refine (unhide C9 _ _).mono ?_
            rintro e w4 ⟨rfl, rfl⟩
            rw [unhide HD]
            go_wp2
            go_roundw
            case rel => exact Rel.next k 1 true pt he W F E X hlt (unhide OWN) (by first | omega | (simp; omega)) (unhide HX) (Nat.le_trans (Nat.le_of_eq (congrArg List.length (unhide HX))) (trim_len _)) (by omega) (unhide HF) (fun _ => unhide HW (by omega)) (fun h => by omega) (unhide HR) (by rw [unhide E45]; exact st_minus neg pt he W F E) (by first | rfl | go_num | simp) (by first | rfl | simp) (by first | rfl | simp) (by first | rfl | simp) (by first | rfl | go_num | (simp; omega)) (by first | rfl | simp) (by first | rfl | simp) (by first | rfl | simp) (by first | rfl | go_num | simp)
            case measure => simp [RowKit.intOf]; omega
          · by_cases e43 : s[k] = 43
            · have n45 := e45
              have f45 : ((s[k].toNat : Int) == 45) = false := neI (n := 45) n45 (by decide)
              have f43 : ((s[k].toNat : Int) == 43) = true := eqI (n := 43) e43 (by decide)
              have E43 := hide e43
              clear e43
              clear n45
              go_wp2_with fail
              refine (unhide C9 _ _).mono ?_
              rintro e w4 ⟨rfl, rfl⟩
              rw [unhide HD]
              go_wp2
              go_roundw
              case rel => exact Rel.next k 1 neg pt he W F E X hlt (unhide OWN) (by first | omega | (simp; omega)) (unhide HX) (Nat.le_trans (Nat.le_of_eq (congrArg List.length (unhide HX))) (trim_len _)) (by omega) (unhide HF) (fun _ => unhide HW (by omega)) (fun h => by omega) (unhide HR) (by rw [unhide E43]; exact st_plus neg pt he W F E) (by first | rfl | go_num | simp) (by first | rfl | simp) (by first | rfl | simp) (by first | rfl | simp) (by first | rfl | go_num | (simp; omega)) (by first | rfl | simp) (by first | rfl | simp) (by first | rfl | simp) (by first | rfl | go_num | simp)
              case measure => simp [RowKit.intOf]; omega
            · have n45 := e45
              have n43 := e43
              by_cases e46 : s[k] = 46
              · have n45 : s[k] ≠ 45 := by rw [e46]; decide
                have n43 : s[k] ≠ 43 := by rw [e46]; decide
                have f45 : ((s[k].toNat : Int) == 45) = false := neI (n := 45) n45 (by decide)
                have f43 : ((s[k].toNat : Int) == 43) = false := neI (n := 43) n43 (by decide)
                have f46 : ((s[k].toNat : Int) == 46) = true := eqI (n := 46) e46 (by decide)
                have E46 := hide e46
                clear e46
                clear n45 n43
                go_wp2_with fail
                refine (unhide C9 _ _).mono ?_
                rintro e w4 ⟨rfl, rfl⟩
                rw [unhide HD]
                go_wp2
                go_roundw
                case rel => exact Rel.next k 3 neg true he W F E X hlt (unhide OWN) (by first | omega | (simp; omega)) (unhide HX) (Nat.le_trans (Nat.le_of_eq (congrArg List.length (unhide HX))) (trim_len _)) (by omega) (fun _ => rfl) (fun h => by omega) (fun _ => rfl) (unhide HR) (by rw [unhide E46]; exact st_dot01 0 neg pt he W F E (by omega : 0 ≤ 1)) (by first | rfl | go_num | simp) (by first | rfl | simp) (by first | rfl | simp) (by first | rfl | simp) (by first | rfl | go_num | (simp; omega)) (by first | rfl | simp) (by first | rfl | simp) (by first | rfl | simp) (by first | rfl | go_num | simp)
                case measure => simp [RowKit.intOf]; omega
              · have n46 := e46
                have f45 : ((s[k].toNat : Int) == 45) = false := neI (n := 45) n45 (by decide)
                have f43 : ((s[k].toNat : Int) == 43) = false := neI (n := 43) n43 (by decide)
                have f46 : ((s[k].toNat : Int) == 46) = false := neI (n := 46) n46 (by decide)
                have HS := hide (dec_no s (run_stop hlt (unhide HR) (st_no01 0 neg pt he W F E s[k] (by omega) hd n46 (fun _ => ⟨n45, n43⟩))))
                have hbl := own.2.2.2
                go_wp2_with fail
                refine (unhide C9 _ _).mono ?_
                rintro e w4 ⟨rfl, rfl⟩
                rw [unhide HD]
                go_wp2
                go_ret3
                exact ⟨unhide HS, hbl⟩
      · by_cases q1 : q = 1
        · subst q1
          cases hd : dig s[k] with
          | true =>
            have HD : Hid (digI (s[k].toNat : Int) = true) := hide (by rw [digI_of]; exact hd)
            by_cases e48 : s[k] = 48
            · have n45 := (dig_ne _ hd).1
              have n43 := (dig_ne _ hd).2.1
              have f45 : ((s[k].toNat : Int) == 45) = false := neI (n := 45) n45 (by decide)
              have f43 : ((s[k].toNat : Int) == 43) = false := neI (n := 43) n43 (by decide)
              have g48 : ((s[k].toNat : Int) != 48) = false := eqI' (n := 48) e48 (by decide)
              have E48 := hide e48
              clear e48
              clear n45 n43
              go_wp2_with fail
              refine (unhide C9 _ _).mono ?_
              rintro e w4 ⟨rfl, rfl⟩
              rw [unhide HD]
              go_wp2
              go_roundw
              case rel => exact Rel.next k 2 neg pt he (W ++ [s[k]]) F E X hlt (unhide OWN) (by first | omega | (simp; omega)) (show X = trimLeftB (W ++ [s[k]]) 48 by rw [unhide E48, trim_zero W (by rw [unhide HW (by omega)]; rfl), unhide HX, unhide HW (by omega)]; rfl) (Nat.le_trans (Nat.le_of_eq (congrArg List.length (show X = trimLeftB (W ++ [s[k]]) 48 by rw [unhide E48, trim_zero W (by rw [unhide HW (by omega)]; rfl), unhide HX, unhide HW (by omega)]; rfl))) (trim_len _)) (by omega) (unhide HF) (fun h => by omega) (fun h => by omega) (unhide HR) (st_dig01 1 neg pt he W F E s[k] (by omega : 1 ≤ 1) hd) (by first | rfl | go_num | simp) (by first | rfl | simp) (by first | rfl | simp) (by first | rfl | simp) (by first | rfl | go_num | (simp; omega)) (by first | rfl | simp) (by first | rfl | simp) (by first | rfl | simp) (by first | rfl | go_num | simp)
              case measure => simp [RowKit.intOf]; omega
            · have n45 := (dig_ne _ hd).1
              have n43 := (dig_ne _ hd).2.1
              have f45 : ((s[k].toNat : Int) == 45) = false := neI (n := 45) n45 (by decide)
              have f43 : ((s[k].toNat : Int) == 43) = false := neI (n := 43) n43 (by decide)
              have g48 : ((s[k].toNat : Int) != 48) = true := neI' (n := 48) e48 (by decide)
              clear n45 n43
              go_wp2_with fail
              refine (unhide C9 _ _).mono ?_
              rintro e w4 ⟨rfl, rfl⟩
              rw [unhide HD]
              go_wp2_with (at_builtin; refine wpList_append_fits _ rfl _ _ 28 rfl w.heap.size 5 i0 1 Tryd.underlying28 hi hz1 (w.heap.size) X.length s.size _ rfl ((own.1).alloc _) ⟨w4.heap.size, 0, none⟩ 1 1 [bv s[k]] rfl rfl (cell_one_new _ _ _) (by intro u hu; simp at hu; subst hu; rfl) (by omega) ?_; intro w5 hown5 hgrow5)
              go_wp2
              go_roundw
              case rel => exact Rel.next k 2 neg pt he (W ++ [s[k]]) F E (X ++ [s[k]]) hlt ((unhide OWN).x d12 d13 hBw s[k] hown5 hgrow5) (by first | omega | (simp; omega)) (show X ++ [s[k]] = trimLeftB (W ++ [s[k]]) 48 by rw [trim_keep W s[k] (.inr e48), ← unhide HX]) (Nat.le_trans (Nat.le_of_eq (congrArg List.length (show X ++ [s[k]] = trimLeftB (W ++ [s[k]]) 48 by rw [trim_keep W s[k] (.inr e48), ← unhide HX]))) (trim_len _)) (by omega) (unhide HF) (fun h => by omega) (fun h => by omega) (unhide HR) (st_dig01 1 neg pt he W F E s[k] (by omega : 1 ≤ 1) hd) (by first | rfl | go_num | simp) (by first | rfl | simp) (by first | rfl | simp) (by first | rfl | simp) (by first | rfl | go_num | (simp; omega)) (by first | rfl | simp) (by first | rfl | simp) (by first | rfl | simp) (by first | rfl | go_num | simp)
              case measure => simp [RowKit.intOf]; omega
          | false =>
            have HD : Hid (digI (s[k].toNat : Int) = false) := hide (by rw [digI_of]; exact hd)
            by_cases e46 : s[k] = 46
            · have n45 : s[k] ≠ 45 := by rw [e46]; decide
              have n43 : s[k] ≠ 43 := by rw [e46]; decide
              have f45 : ((s[k].toNat : Int) == 45) = false := neI (n := 45) n45 (by decide)
              have f43 : ((s[k].toNat : Int) == 43) = false := neI (n := 43) n43 (by decide)
              have f46 : ((s[k].toNat : Int) == 46) = true := eqI (n := 46) e46 (by decide)
              have E46 := hide e46
              clear e46
              clear n45 n43
              go_wp2_with fail
              refine (unhide C9 _ _).mono ?_
              rintro e w4 ⟨rfl, rfl⟩
              rw [unhide HD]
              go_wp2
              go_roundw
              case rel => exact Rel.next k 3 neg true he W F E X hlt (unhide OWN) (by first | omega | (simp; omega)) (unhide HX) (Nat.le_trans (Nat.le_of_eq (congrArg List.length (unhide HX))) (trim_len _)) (by omega) (fun _ => rfl) (fun h => by omega) (fun _ => rfl) (unhide HR) (by rw [unhide E46]; exact st_dot01 1 neg pt he W F E (by omega : 1 ≤ 1)) (by first | rfl | go_num | simp) (by first | rfl | simp) (by first | rfl | simp) (by first | rfl | simp) (by first | rfl | go_num | (simp; omega)) (by first | rfl | simp) (by first | rfl | simp) (by first | rfl | simp) (by first | rfl | go_num | simp)
              case measure => simp [RowKit.intOf]; omega
            · have n46 := e46
              have f46 : ((s[k].toNat : Int) == 46) = false := neI (n := 46) n46 (by decide)
              have HS := hide (dec_no s (run_stop hlt (unhide HR) (st_no01 1 neg pt he W F E s[k] (by omega) hd n46 (fun h => by omega))))
              have hbl := own.2.2.2
              go_wp2_with fail
              refine (unhide C9 _ _).mono ?_
              rintro e w4 ⟨rfl, rfl⟩
              rw [unhide HD]
              go_wp2
              go_ret3
              exact ⟨unhide HS, hbl⟩
        · by_cases q2 : q = 2
          · subst q2
            cases hd : dig s[k] with
            | true =>
              have HD : Hid (digI (s[k].toNat : Int) = true) := hide (by rw [digI_of]; exact hd)
              by_cases x0 : X.length = 0
              · obtain rfl : X = [] := List.length_eq_zero_iff.1 x0
                clear x0
                by_cases e48 : s[k] = 48
                · have g48 : ((s[k].toNat : Int) != 48) = false := eqI' (n := 48) e48 (by decide)
                  have E48 := hide e48
                  clear e48
                  go_wp2_with fail
                  refine (unhide C9 _ _).mono ?_
                  rintro e w4 ⟨rfl, rfl⟩
                  rw [unhide HD]
                  go_wp2
                  go_roundw
                  case rel => exact Rel.next k 2 neg pt he (W ++ [s[k]]) F E [] hlt (unhide OWN) (by first | omega | (simp; omega)) (show [] = trimLeftB (W ++ [s[k]]) 48 by rw [unhide E48, trim_zero W (unhide HX).symm]) (Nat.le_trans (Nat.le_of_eq (congrArg List.length (show [] = trimLeftB (W ++ [s[k]]) 48 by rw [unhide E48, trim_zero W (unhide HX).symm]))) (trim_len _)) (by omega) (unhide HF) (fun h => by omega) (fun h => by omega) (unhide HR) (st_dig2 neg pt he W F E s[k] hd) (by first | rfl | go_num | simp) (by first | rfl | simp) (by first | rfl | simp) (by first | rfl | simp) (by first | rfl | go_num | (simp; omega)) (by first | rfl | simp) (by first | rfl | simp) (by first | rfl | simp) (by first | rfl | go_num | simp)
                  case measure => simp [RowKit.intOf]; omega
                · have g48 : ((s[k].toNat : Int) != 48) = true := neI' (n := 48) e48 (by decide)
                  go_wp2_with fail
                  refine (unhide C9 _ _).mono ?_
                  rintro e w4 ⟨rfl, rfl⟩
                  rw [unhide HD]
                  go_wp2_with (at_builtin; refine wpList_append_fits _ rfl _ _ 28 rfl w.heap.size 5 i0 1 Tryd.underlying28 hi hz1 (w.heap.size) 0 s.size [] rfl ((show w4.ownsRow w.heap.size 5 1 (.slice (some ⟨w.heap.size, 0, none⟩) 0 s.size) 0 [] from own.1).alloc _) ⟨w4.heap.size, 0, none⟩ 1 1 [bv s[k]] rfl rfl (cell_one_new _ _ _) (by intro u hu; simp at hu; subst hu; rfl) (by omega) ?_; intro w5 hown5 hgrow5)
                  go_wp2
                  go_roundw
                  case rel => exact Rel.next k 2 neg pt he (W ++ [s[k]]) F E ([] ++ [s[k]]) hlt ((unhide OWN).x d12 d13 hBw s[k] hown5 hgrow5) (by first | omega | (simp; omega)) (show [] ++ [s[k]] = trimLeftB (W ++ [s[k]]) 48 by rw [trim_keep W s[k] (.inr e48), ← unhide HX]) (Nat.le_trans (Nat.le_of_eq (congrArg List.length (show [] ++ [s[k]] = trimLeftB (W ++ [s[k]]) 48 by rw [trim_keep W s[k] (.inr e48), ← unhide HX]))) (trim_len _)) (by omega) (unhide HF) (fun h => by omega) (fun h => by omega) (unhide HR) (st_dig2 neg pt he W F E s[k] hd) (by first | rfl | go_num | simp) (by first | rfl | simp) (by first | rfl | simp) (by first | rfl | simp) (by first | rfl | go_num | (simp; omega)) (by first | rfl | simp) (by first | rfl | simp) (by first | rfl | simp) (by first | rfl | go_num | simp)
                  case measure => simp [RowKit.intOf]; omega
              · have x1 : 0 < X.length := by omega
                go_wp2_with fail
                refine (unhide C9 _ _).mono ?_
                rintro e w4 ⟨rfl, rfl⟩
                rw [unhide HD]
                go_wp2_with (at_builtin; refine wpList_append_fits _ rfl _ _ 28 rfl w.heap.size 5 i0 1 Tryd.underlying28 hi hz1 (w.heap.size) X.length s.size _ rfl ((own.1).alloc _) ⟨w4.heap.size, 0, none⟩ 1 1 [bv s[k]] rfl rfl (cell_one_new _ _ _) (by intro u hu; simp at hu; subst hu; rfl) (by omega) ?_; intro w5 hown5 hgrow5)
                go_wp2
                go_roundw
                case rel => exact Rel.next k 2 neg pt he (W ++ [s[k]]) F E (X ++ [s[k]]) hlt ((unhide OWN).x d12 d13 hBw s[k] hown5 hgrow5) (by first | omega | (simp; omega)) (show X ++ [s[k]] = trimLeftB (W ++ [s[k]]) 48 by rw [trim_keep W s[k] (.inl (by rw [← unhide HX]; intro e; rw [e] at x1; simp at x1)), ← unhide HX]) (Nat.le_trans (Nat.le_of_eq (congrArg List.length (show X ++ [s[k]] = trimLeftB (W ++ [s[k]]) 48 by rw [trim_keep W s[k] (.inl (by rw [← unhide HX]; intro e; rw [e] at x1; simp at x1)), ← unhide HX]))) (trim_len _)) (by omega) (unhide HF) (fun h => by omega) (fun h => by omega) (unhide HR) (st_dig2 neg pt he W F E s[k] hd) (by first | rfl | go_num | simp) (by first | rfl | simp) (by first | rfl | simp) (by first | rfl | simp) (by first | rfl | go_num | (simp; omega)) (by first | rfl | simp) (by first | rfl | simp) (by first | rfl | simp) (by first | rfl | go_num | simp)
                case measure => simp [RowKit.intOf]; omega
            | false =>
              have HD : Hid (digI (s[k].toNat : Int) = false) := hide (by rw [digI_of]; exact hd)
              by_cases e46 : s[k] = 46
              · have f46 : ((s[k].toNat : Int) == 46) = true := eqI (n := 46) e46 (by decide)
                have E46 := hide e46
                clear e46
                go_wp2_with fail
                refine (unhide C9 _ _).mono ?_
                rintro e w4 ⟨rfl, rfl⟩
                rw [unhide HD]
                go_wp2
                go_roundw
                case rel => exact Rel.next k 3 neg true he W F E X hlt (unhide OWN) (by first | omega | (simp; omega)) (unhide HX) (Nat.le_trans (Nat.le_of_eq (congrArg List.length (unhide HX))) (trim_len _)) (by omega) (fun _ => rfl) (fun h => by omega) (fun _ => rfl) (unhide HR) (by rw [unhide E46]; exact st_dot2 neg pt he W F E) (by first | rfl | go_num | simp) (by first | rfl | simp) (by first | rfl | simp) (by first | rfl | simp) (by first | rfl | go_num | (simp; omega)) (by first | rfl | simp) (by first | rfl | simp) (by first | rfl | simp) (by first | rfl | go_num | simp)
                case measure => simp [RowKit.intOf]; omega
              · have n46 := e46
                have f46 : ((s[k].toNat : Int) == 46) = false := neI (n := 46) n46 (by decide)
                by_cases e101 : s[k] = 101
                · have f101 : ((s[k].toNat : Int) == 101) = true := eqI (n := 101) e101 (by decide)
                  have E101 := hide e101
                  clear e101
                  go_wp2_with fail
                  refine (unhide C9 _ _).mono ?_
                  rintro e w4 ⟨rfl, rfl⟩
                  rw [unhide HD]
                  go_wp2
                  go_roundw
                  case rel => exact Rel.next k 5 neg pt true W F E X hlt (unhide OWN) (by first | omega | (simp; omega)) (unhide HX) (Nat.le_trans (Nat.le_of_eq (congrArg List.length (unhide HX))) (trim_len _)) (by omega) (unhide HF) (fun h => by omega) (fun h => by omega) (unhide HR) (st_e2 neg pt he W F E s[k] (.inl (unhide E101))) (by first | rfl | go_num | simp) (by first | rfl | simp) (by first | rfl | simp) (by first | rfl | simp) (by first | rfl | go_num | (simp; omega)) (by first | rfl | simp) (by first | rfl | simp) (by first | rfl | simp) (by first | rfl | go_num | simp)
                  case measure => simp [RowKit.intOf]; omega
                · have n101 := e101
                  by_cases e69 : s[k] = 69
                  · have f101 : ((s[k].toNat : Int) == 101) = false := neI (n := 101) n101 (by decide)
                    have f69 : ((s[k].toNat : Int) == 69) = true := eqI (n := 69) e69 (by decide)
                    have E69 := hide e69
                    clear e69
                    go_wp2_with fail
                    refine (unhide C9 _ _).mono ?_
                    rintro e w4 ⟨rfl, rfl⟩
                    rw [unhide HD]
                    go_wp2
                    go_roundw
                    case rel => exact Rel.next k 5 neg pt true W F E X hlt (unhide OWN) (by first | omega | (simp; omega)) (unhide HX) (Nat.le_trans (Nat.le_of_eq (congrArg List.length (unhide HX))) (trim_len _)) (by omega) (unhide HF) (fun h => by omega) (fun h => by omega) (unhide HR) (st_e2 neg pt he W F E s[k] (.inr (unhide E69))) (by first | rfl | go_num | simp) (by first | rfl | simp) (by first | rfl | simp) (by first | rfl | simp) (by first | rfl | go_num | (simp; omega)) (by first | rfl | simp) (by first | rfl | simp) (by first | rfl | simp) (by first | rfl | go_num | simp)
                    case measure => simp [RowKit.intOf]; omega
                  · have n69 := e69
                    have f101 : ((s[k].toNat : Int) == 101) = false := neI (n := 101) n101 (by decide)
                    have f69 : ((s[k].toNat : Int) == 69) = false := neI (n := 69) n69 (by decide)
                    have HS := hide (dec_no s (run_stop hlt (unhide HR) (st_no2 neg pt he W F E s[k] hd n46 (fun h => h.elim n101 n69))))
                    have hbl := own.2.2.2
                    go_wp2_with fail
                    refine (unhide C9 _ _).mono ?_
                    rintro e w4 ⟨rfl, rfl⟩
                    rw [unhide HD]
                    go_wp2
                    go_ret3
                    exact ⟨unhide HS, hbl⟩
          · by_cases q3 : q = 3
            · subst q3
              cases hd : dig s[k] with
              | true =>
                have HD : Hid (digI (s[k].toNat : Int) = true) := hide (by rw [digI_of]; exact hd)
                go_wp2_with fail
                refine (unhide C9 _ _).mono ?_
                rintro e w4 ⟨rfl, rfl⟩
                rw [unhide HD]
                go_wp2_with (at_builtin; refine wpList_append_fits _ rfl _ _ 28 rfl w.heap.size 5 i0 1 Tryd.underlying28 hi hz1 (b2) F.length s.size _ rfl ((own.2.1).alloc _) ⟨w4.heap.size, 0, none⟩ 1 1 [bv s[k]] rfl rfl (cell_one_new _ _ _) (by intro u hu; simp at hu; subst hu; rfl) (by omega) ?_; intro w5 hown5 hgrow5)
                go_wp2
                go_roundw
                case rel => exact Rel.next k 3 neg pt he W (F ++ [s[k]]) E X hlt ((unhide OWN).y d12 d23 hBw s[k] hown5 hgrow5) (by first | omega | (simp; omega)) (unhide HX) (Nat.le_trans (Nat.le_of_eq (congrArg List.length (unhide HX))) (trim_len _)) (by omega) (fun _ => unhide HP (by simp)) (fun h => by omega) (fun _ => unhide HP (by simp)) (unhide HR) (st_dig3 neg pt he W F E s[k] hd) (by first | rfl | go_num | simp) (by first | rfl | simp) (by first | rfl | simp) (by first | rfl | simp) (by first | rfl | go_num | (simp; omega)) (by first | rfl | simp) (by first | rfl | simp) (by first | rfl | simp) (by first | rfl | go_num | simp)
                case measure => simp [RowKit.intOf]; omega
              | false =>
                have HD : Hid (digI (s[k].toNat : Int) = false) := hide (by rw [digI_of]; exact hd)
                by_cases e101 : s[k] = 101
                · have f101 : ((s[k].toNat : Int) == 101) = true := eqI (n := 101) e101 (by decide)
                  have E101 := hide e101
                  clear e101
                  go_wp2_with fail
                  refine (unhide C9 _ _).mono ?_
                  rintro e w4 ⟨rfl, rfl⟩
                  rw [unhide HD]
                  go_wp2
                  go_roundw
                  case rel => exact Rel.next k 5 neg pt true W F E X hlt (unhide OWN) (by first | omega | (simp; omega)) (unhide HX) (Nat.le_trans (Nat.le_of_eq (congrArg List.length (unhide HX))) (trim_len _)) (by omega) (unhide HF) (fun h => by omega) (fun h => by omega) (unhide HR) (st_e3 neg pt he W F E s[k] (.inl (unhide E101))) (by first | rfl | go_num | simp) (by first | rfl | simp) (by first | rfl | simp) (by first | rfl | simp) (by first | rfl | go_num | (simp; omega)) (by first | rfl | simp) (by first | rfl | simp) (by first | rfl | simp) (by first | rfl | go_num | simp)
                  case measure => simp [RowKit.intOf]; omega
                · have n101 := e101
                  by_cases e69 : s[k] = 69
                  · have f101 : ((s[k].toNat : Int) == 101) = false := neI (n := 101) n101 (by decide)
                    have f69 : ((s[k].toNat : Int) == 69) = true := eqI (n := 69) e69 (by decide)
                    have E69 := hide e69
                    clear e69
                    go_wp2_with fail
                    refine (unhide C9 _ _).mono ?_
                    rintro e w4 ⟨rfl, rfl⟩
                    rw [unhide HD]
                    go_wp2
                    go_roundw
                    case rel => exact Rel.next k 5 neg pt true W F E X hlt (unhide OWN) (by first | omega | (simp; omega)) (unhide HX) (Nat.le_trans (Nat.le_of_eq (congrArg List.length (unhide HX))) (trim_len _)) (by omega) (unhide HF) (fun h => by omega) (fun h => by omega) (unhide HR) (st_e3 neg pt he W F E s[k] (.inr (unhide E69))) (by first | rfl | go_num | simp) (by first | rfl | simp) (by first | rfl | simp) (by first | rfl | simp) (by first | rfl | go_num | (simp; omega)) (by first | rfl | simp) (by first | rfl | simp) (by first | rfl | simp) (by first | rfl | go_num | simp)
                    case measure => simp [RowKit.intOf]; omega
                  · have n69 := e69
                    have f101 : ((s[k].toNat : Int) == 101) = false := neI (n := 101) n101 (by decide)
                    have f69 : ((s[k].toNat : Int) == 69) = false := neI (n := 69) n69 (by decide)
                    have HS := hide (dec_no s (run_stop hlt (unhide HR) (st_no3 neg pt he W F E s[k] hd (fun h => h.elim n101 n69))))
                    have hbl := own.2.2.2
                    go_wp2_with fail
                    refine (unhide C9 _ _).mono ?_
                    rintro e w4 ⟨rfl, rfl⟩
                    rw [unhide HD]
                    go_wp2
                    go_ret3
                    exact ⟨unhide HS, hbl⟩
            · by_cases q5 : q = 5
              · subst q5
                cases hd : dig s[k] with
                | true =>
                  have HD : Hid (digI (s[k].toNat : Int) = true) := hide (by rw [digI_of]; exact hd)
                  have n45 := (dig_ne _ hd).1
                  have n43 := (dig_ne _ hd).2.1
                  have f45 : ((s[k].toNat : Int) == 45) = false := neI (n := 45) n45 (by decide)
                  have f43 : ((s[k].toNat : Int) == 43) = false := neI (n := 43) n43 (by decide)
                  clear n45 n43
                  go_wp2_with fail
                  refine (unhide C9 _ _).mono ?_
                  rintro e w4 ⟨rfl, rfl⟩
                  rw [unhide HD]
                  go_wp2_with (at_builtin; refine wpList_append_fits _ rfl _ _ 28 rfl w.heap.size 5 i0 1 Tryd.underlying28 hi hz1 (b3) E.length s.size _ rfl ((own.2.2.1).alloc _) ⟨w4.heap.size, 0, none⟩ 1 1 [bv s[k]] rfl rfl (cell_one_new _ _ _) (by intro u hu; simp at hu; subst hu; rfl) (by omega) ?_; intro w5 hown5 hgrow5)
                  go_wp2
                  go_roundw
                  case rel => exact Rel.next k 7 neg pt he W F (E ++ [s[k]]) X hlt ((unhide OWN).z d13 d23 hBw s[k] hown5 hgrow5) (by first | omega | (simp; omega)) (unhide HX) (Nat.le_trans (Nat.le_of_eq (congrArg List.length (unhide HX))) (trim_len _)) (by omega) (unhide HF) (fun h => by omega) (fun h => by omega) (unhide HR) (st_dig5 neg pt he W F E s[k] hd) (by first | rfl | go_num | simp) (by first | rfl | simp) (by first | rfl | simp) (by first | rfl | simp) (by first | rfl | go_num | (simp; omega)) (by first | rfl | simp) (by first | rfl | simp) (by first | rfl | simp) (by first | rfl | go_num | simp)
                  case measure => simp [RowKit.intOf]; omega
                | false =>
                  have HD : Hid (digI (s[k].toNat : Int) = false) := hide (by rw [digI_of]; exact hd)
                  by_cases e43 : s[k] = 43
                  · have f43 : ((s[k].toNat : Int) == 43) = true := eqI (n := 43) e43 (by decide)
                    have E43 := hide e43
                    clear e43
                    go_wp2_with fail
                    refine (unhide C9 _ _).mono ?_
                    rintro e w4 ⟨rfl, rfl⟩
                    rw [unhide HD]
                    go_wp2_with (at_builtin; refine wpList_append_fits _ rfl _ _ 28 rfl w.heap.size 5 i0 1 Tryd.underlying28 hi hz1 (b3) E.length s.size _ rfl ((own.2.2.1).alloc _) ⟨w4.heap.size, 0, none⟩ 1 1 [bv s[k]] rfl rfl (cell_one_new _ _ _) (by intro u hu; simp at hu; subst hu; rfl) (by omega) ?_; intro w5 hown5 hgrow5)
                    go_wp2
                    go_roundw
                    case rel => exact Rel.next k 6 neg pt he W F (E ++ [s[k]]) X hlt ((unhide OWN).z d13 d23 hBw s[k] hown5 hgrow5) (by first | omega | (simp; omega)) (unhide HX) (Nat.le_trans (Nat.le_of_eq (congrArg List.length (unhide HX))) (trim_len _)) (by omega) (unhide HF) (fun h => by omega) (fun h => by omega) (unhide HR) (st_sgn5 neg pt he W F E s[k] (.inl (unhide E43))) (by first | rfl | go_num | simp) (by first | rfl | simp) (by first | rfl | simp) (by first | rfl | simp) (by first | rfl | go_num | (simp; omega)) (by first | rfl | simp) (by first | rfl | simp) (by first | rfl | simp) (by first | rfl | go_num | simp)
                    case measure => simp [RowKit.intOf]; omega
                  · have n43 := e43
                    by_cases e45 : s[k] = 45
                    · have f43 : ((s[k].toNat : Int) == 43) = false := neI (n := 43) n43 (by decide)
                      have f45 : ((s[k].toNat : Int) == 45) = true := eqI (n := 45) e45 (by decide)
                      have E45 := hide e45
                      clear e45
                      go_wp2_with fail
                      refine (unhide C9 _ _).mono ?_
                      rintro e w4 ⟨rfl, rfl⟩
                      rw [unhide HD]
                      go_wp2_with (at_builtin; refine wpList_append_fits _ rfl _ _ 28 rfl w.heap.size 5 i0 1 Tryd.underlying28 hi hz1 (b3) E.length s.size _ rfl ((own.2.2.1).alloc _) ⟨w4.heap.size, 0, none⟩ 1 1 [bv s[k]] rfl rfl (cell_one_new _ _ _) (by intro u hu; simp at hu; subst hu; rfl) (by omega) ?_; intro w5 hown5 hgrow5)
                      go_wp2
                      go_roundw
                      case rel => exact Rel.next k 6 neg pt he W F (E ++ [s[k]]) X hlt ((unhide OWN).z d13 d23 hBw s[k] hown5 hgrow5) (by first | omega | (simp; omega)) (unhide HX) (Nat.le_trans (Nat.le_of_eq (congrArg List.length (unhide HX))) (trim_len _)) (by omega) (unhide HF) (fun h => by omega) (fun h => by omega) (unhide HR) (st_sgn5 neg pt he W F E s[k] (.inr (unhide E45))) (by first | rfl | go_num | simp) (by first | rfl | simp) (by first | rfl | simp) (by first | rfl | simp) (by first | rfl | go_num | (simp; omega)) (by first | rfl | simp) (by first | rfl | simp) (by first | rfl | simp) (by first | rfl | go_num | simp)
                      case measure => simp [RowKit.intOf]; omega
                    · have n45 := e45
                      have f43 : ((s[k].toNat : Int) == 43) = false := neI (n := 43) n43 (by decide)
                      have f45 : ((s[k].toNat : Int) == 45) = false := neI (n := 45) n45 (by decide)
                      have HS := hide (dec_no s (run_stop hlt (unhide HR) (st_no5 neg pt he W F E s[k] hd (fun h => h.elim n43 n45))))
                      have hbl := own.2.2.2
                      go_wp2_with fail
                      refine (unhide C9 _ _).mono ?_
                      rintro e w4 ⟨rfl, rfl⟩
                      rw [unhide HD]
                      go_wp2
                      go_ret3
                      exact ⟨unhide HS, hbl⟩
              · have g0 : ((q : Int) == 0) = false := by rw [beq_eq_false_iff_ne]; omega
                have g1 : ((q : Int) == 1) = false := by rw [beq_eq_false_iff_ne]; omega
                have g2 : ((q : Int) == 2) = false := by rw [beq_eq_false_iff_ne]; omega
                have g3 : ((q : Int) == 3) = false := by rw [beq_eq_false_iff_ne]; omega
                have g5 : ((q : Int) == 5) = false := by rw [beq_eq_false_iff_ne]; omega
                cases hd : dig s[k] with
                | true =>
                  have HD : Hid (digI (s[k].toNat : Int) = true) := hide (by rw [digI_of]; exact hd)
                  go_wp2_with fail
                  refine (unhide C9 _ _).mono ?_
                  rintro e w4 ⟨rfl, rfl⟩
                  rw [unhide HD]
                  go_wp2_with (at_builtin; refine wpList_append_fits _ rfl _ _ 28 rfl w.heap.size 5 i0 1 Tryd.underlying28 hi hz1 (b3) E.length s.size _ rfl ((own.2.2.1).alloc _) ⟨w4.heap.size, 0, none⟩ 1 1 [bv s[k]] rfl rfl (cell_one_new _ _ _) (by intro u hu; simp at hu; subst hu; rfl) (by omega) ?_; intro w5 hown5 hgrow5)
                  go_wp2
                  go_roundw
                  case rel => exact Rel.next k 7 neg pt he W F (E ++ [s[k]]) X hlt ((unhide OWN).z d13 d23 hBw s[k] hown5 hgrow5) (by first | omega | (simp; omega)) (unhide HX) (Nat.le_trans (Nat.le_of_eq (congrArg List.length (unhide HX))) (trim_len _)) (by omega) (unhide HF) (fun h => by omega) (fun h => by omega) (unhide HR) (st_dig7 q neg pt he W F E s[k] (by omega) q2 q3 q5 hd) (by first | rfl | go_num | simp) (by first | rfl | simp) (by first | rfl | simp) (by first | rfl | simp) (by first | rfl | go_num | (simp; omega)) (by first | rfl | simp) (by first | rfl | simp) (by first | rfl | simp) (by first | rfl | go_num | simp)
                  case measure => simp [RowKit.intOf]; omega
                | false =>
                  have HD : Hid (digI (s[k].toNat : Int) = false) := hide (by rw [digI_of]; exact hd)
                  have HS := hide (dec_no s (run_stop hlt (unhide HR) (st_no7 q neg pt he W F E s[k] (by omega) q2 q3 q5 hd)))
                  have hbl := own.2.2.2
                  go_wp2_with fail
                  refine (unhide C9 _ _).mono ?_
                  rintro e w4 ⟨rfl, rfl⟩
                  rw [unhide HD]
                  go_wp2
                  go_ret3
                  exact ⟨unhide HS, hbl⟩

    · have HFN : Hid (decL s.data.toList = fin ⟨q, neg, pt, he, W, F, E⟩) := hide (by
        rw [dec_eq_model]; unfold modelL; rw [← unhide HR, List.drop_of_length_le (by simp; omega)]; rfl)
      by_cases z0 : W.length + F.length = 0
      · have gz : ((W.length : Int) + (F.length : Int) == 0) = true := by rw [beq_iff_eq]; omega
        have hw0 : W = [] := List.length_eq_zero_iff.1 (by omega)
        have hf0 : F = [] := List.length_eq_zero_iff.1 (by omega)
        have HS := hide (dec_no s (by rw [unhide HFN]; unfold fin; rw [if_pos (.inl ⟨hw0, hf0⟩)]))
        clear hw0 hf0
        go_wp2
        go_ret3
        exact ⟨unhide HS, own.2.2.2⟩
      · have gz : ((W.length : Int) + (F.length : Int) == 0) = false := by rw [beq_eq_false_iff_ne]; omega
        by_cases q5 : q = 5
        · subst q5
          have HS := hide (dec_no s (by rw [unhide HFN]; unfold fin; rw [if_pos (.inr (.inl rfl))]))
          go_wp2
          go_ret3
          exact ⟨unhide HS, own.2.2.2⟩
        · by_cases q6 : q = 6
          · subst q6
            have HS := hide (dec_no s (by rw [unhide HFN]; unfold fin; rw [if_pos (.inr (.inr rfl))]))
            go_wp2
            go_ret3
            exact ⟨unhide HS, own.2.2.2⟩
          · have HACC : Hid (decL s.data.toList = some (numL neg W F (if he then 101 :: E else []), !pt && !he)) := hide (by
              rw [unhide HFN]; unfold fin; rw [if_neg]
              rintro (h | h | h)
              · exact z0 (by have h1 : W = [] := h.1; have h2 : F = [] := h.2; rw [h1, h2]; rfl)
              · exact q5 h
              · exact q6 h)
            have g5 : ((q : Int) == 5) = false := by rw [beq_eq_false_iff_ne]; omega
            have g6 : ((q : Int) == 6) = false := by rw [beq_eq_false_iff_ne]; omega
            have hfp : F ≠ [] → pt = true := unhide HF
            have HFP := hide hfp
            clear hfp
            have Z0 := hide z0
            clear HFN z0 q5 q6 OWN HF HW HP HR
            cases neg <;> cases he
            all_goals
              by_cases x0 : X = []
              · subst x0
                by_cases f0 : F = []
                · subst f0
                  have wn : ¬ W = [] := fun e => unhide Z0 (by rw [e]; rfl)
                  cases pt
                  · clear HFP
                    simp only [Bool.toNat_true, Bool.toNat_false] at hsum
                    go_wp2_with (first
                        | (at_make; refine wpList_make_own _ rfl (.const (.int .i64 0)) (.tmp 138) 28 rfl w.heap.size 5 i0 (.int .u8 0) 1 Tryd.underlying28 hi hz0 hz1 .i64 .i64 _ (s.size + 2) rfl rfl (by omega) (by rw [hz2]; omega) (by unfold maxLen; omega) hBw ?_; intro w5 hm5 hg5; have own := Own4.start own hm5 hg5; clear hm5 hg5; generalize wr.heap.size = bo at *)
                        | (at_builtin; refine wpList_append_fits _ rfl (.tmp 141) (.tmp 142) 28 rfl w.heap.size 5 i0 1 Tryd.underlying28 hi hz1 bo _ (s.size + 2) _ rfl (own.2.alloc _) ⟨_, 0, none⟩ 1 1 [bv 45] rfl rfl (cell_one_new _ _ _) (by intro u hu; simp at hu; subst hu; rfl) (by omega) ?_; intro w6 ho hg; have own := own.put 45 ho hg; clear ho hg; (try simp only [Nat.zero_add] at own); have hcv := own.convert)
                        | (at_builtin; refine wpList_append_fits _ rfl (.tmp 147) (.tmp 148) 28 rfl w.heap.size 5 i0 1 Tryd.underlying28 hi hz1 bo _ (s.size + 2) _ rfl (own.2.alloc _) ⟨_, 0, none⟩ 1 1 [bv 48] rfl rfl (cell_one_new _ _ _) (by intro u hu; simp at hu; subst hu; rfl) (by omega) ?_; intro w6 ho hg; have own := own.put 48 ho hg; clear ho hg; (try simp only [Nat.zero_add] at own); have hcv := own.convert)
                        | (at_builtin; refine wpList_append_fits _ rfl (.tmp 150) (.tmp 151) 28 rfl w.heap.size 5 i0 1 Tryd.underlying28 hi hz1 bo _ (s.size + 2) _ rfl own.2 ⟨w.heap.size, 0, none⟩ X.length s.size (X.map bv) rfl (by simp) (own.1.1.1.cells rfl) (ones _) (by omega) ?_; intro w6 ho hg; have own := own.puts X X.length ho hg; clear ho hg; (try simp only [Nat.zero_add] at own); have hcv := own.convert)
                        | (at_builtin; refine wpList_append_fits _ rfl (.tmp 156) (.tmp 157) 28 rfl w.heap.size 5 i0 1 Tryd.underlying28 hi hz1 bo _ (s.size + 2) _ rfl (own.2.alloc _) ⟨_, 0, none⟩ 1 1 [bv 46] rfl rfl (cell_one_new _ _ _) (by intro u hu; simp at hu; subst hu; rfl) (by omega) ?_; intro w6 ho hg; have own := own.put 46 ho hg; clear ho hg; (try simp only [Nat.zero_add] at own); have hcv := own.convert)
                        | (at_builtin; refine wpList_append_fits _ rfl (.tmp 159) (.tmp 160) 28 rfl w.heap.size 5 i0 1 Tryd.underlying28 hi hz1 bo _ (s.size + 2) _ rfl own.2 ⟨b2, 0, none⟩ F.length s.size (F.map bv) rfl (by simp) (own.1.1.2.1.cells rfl) (ones _) (by omega) ?_; intro w6 ho hg; have own := own.puts F F.length ho hg; clear ho hg; (try simp only [Nat.zero_add] at own); have hcv := own.convert)
                        | (at_builtin; refine wpList_append_fits _ rfl (.tmp 163) (.tmp 164) 28 rfl w.heap.size 5 i0 1 Tryd.underlying28 hi hz1 bo _ (s.size + 2) _ rfl (own.2.alloc _) ⟨_, 0, none⟩ 1 1 [bv 101] rfl rfl (cell_one_new _ _ _) (by intro u hu; simp at hu; subst hu; rfl) (by omega) ?_; intro w6 ho hg; have own := own.put 101 ho hg; clear ho hg; (try simp only [Nat.zero_add] at own); have hcv := own.convert)
                        | (at_builtin; refine wpList_append_fits _ rfl (.tmp 166) (.tmp 167) 28 rfl w.heap.size 5 i0 1 Tryd.underlying28 hi hz1 bo _ (s.size + 2) _ rfl own.2 ⟨b3, 0, none⟩ E.length s.size (E.map bv) rfl (by simp) (own.1.1.2.2.1.cells rfl) (ones _) (by omega) ?_; intro w6 ho hg; have own := own.puts E E.length ho hg; clear ho hg; (try simp only [Nat.zero_add] at own); have hcv := own.convert))
                    go_ret3
                    refine ⟨dec_ret s _ _ ?_, own.1.1.2.2.2⟩
                    rw [unhide HACC]
                    first | (simp [numL, (unhide HX).symm, x0, f0]; done) | (simp [numL, (unhide HX).symm, x0]; done) | (simp [numL, (unhide HX).symm, f0]; done) | (simp [numL, (unhide HX).symm]; done)
                  · clear HFP
                    simp only [Bool.toNat_true, Bool.toNat_false] at hsum
                    go_wp2_with (first
                        | (at_make; refine wpList_make_own _ rfl (.const (.int .i64 0)) (.tmp 138) 28 rfl w.heap.size 5 i0 (.int .u8 0) 1 Tryd.underlying28 hi hz0 hz1 .i64 .i64 _ (s.size + 2) rfl rfl (by omega) (by rw [hz2]; omega) (by unfold maxLen; omega) hBw ?_; intro w5 hm5 hg5; have own := Own4.start own hm5 hg5; clear hm5 hg5; generalize wr.heap.size = bo at *)
                        | (at_builtin; refine wpList_append_fits _ rfl (.tmp 141) (.tmp 142) 28 rfl w.heap.size 5 i0 1 Tryd.underlying28 hi hz1 bo _ (s.size + 2) _ rfl (own.2.alloc _) ⟨_, 0, none⟩ 1 1 [bv 45] rfl rfl (cell_one_new _ _ _) (by intro u hu; simp at hu; subst hu; rfl) (by omega) ?_; intro w6 ho hg; have own := own.put 45 ho hg; clear ho hg; (try simp only [Nat.zero_add] at own); have hcv := own.convert)
                        | (at_builtin; refine wpList_append_fits _ rfl (.tmp 147) (.tmp 148) 28 rfl w.heap.size 5 i0 1 Tryd.underlying28 hi hz1 bo _ (s.size + 2) _ rfl (own.2.alloc _) ⟨_, 0, none⟩ 1 1 [bv 48] rfl rfl (cell_one_new _ _ _) (by intro u hu; simp at hu; subst hu; rfl) (by omega) ?_; intro w6 ho hg; have own := own.put 48 ho hg; clear ho hg; (try simp only [Nat.zero_add] at own); have hcv := own.convert)
                        | (at_builtin; refine wpList_append_fits _ rfl (.tmp 150) (.tmp 151) 28 rfl w.heap.size 5 i0 1 Tryd.underlying28 hi hz1 bo _ (s.size + 2) _ rfl own.2 ⟨w.heap.size, 0, none⟩ X.length s.size (X.map bv) rfl (by simp) (own.1.1.1.cells rfl) (ones _) (by omega) ?_; intro w6 ho hg; have own := own.puts X X.length ho hg; clear ho hg; (try simp only [Nat.zero_add] at own); have hcv := own.convert)
                        | (at_builtin; refine wpList_append_fits _ rfl (.tmp 156) (.tmp 157) 28 rfl w.heap.size 5 i0 1 Tryd.underlying28 hi hz1 bo _ (s.size + 2) _ rfl (own.2.alloc _) ⟨_, 0, none⟩ 1 1 [bv 46] rfl rfl (cell_one_new _ _ _) (by intro u hu; simp at hu; subst hu; rfl) (by omega) ?_; intro w6 ho hg; have own := own.put 46 ho hg; clear ho hg; (try simp only [Nat.zero_add] at own); have hcv := own.convert)
                        | (at_builtin; refine wpList_append_fits _ rfl (.tmp 159) (.tmp 160) 28 rfl w.heap.size 5 i0 1 Tryd.underlying28 hi hz1 bo _ (s.size + 2) _ rfl own.2 ⟨b2, 0, none⟩ F.length s.size (F.map bv) rfl (by simp) (own.1.1.2.1.cells rfl) (ones _) (by omega) ?_; intro w6 ho hg; have own := own.puts F F.length ho hg; clear ho hg; (try simp only [Nat.zero_add] at own); have hcv := own.convert)
                        | (at_builtin; refine wpList_append_fits _ rfl (.tmp 163) (.tmp 164) 28 rfl w.heap.size 5 i0 1 Tryd.underlying28 hi hz1 bo _ (s.size + 2) _ rfl (own.2.alloc _) ⟨_, 0, none⟩ 1 1 [bv 101] rfl rfl (cell_one_new _ _ _) (by intro u hu; simp at hu; subst hu; rfl) (by omega) ?_; intro w6 ho hg; have own := own.put 101 ho hg; clear ho hg; (try simp only [Nat.zero_add] at own); have hcv := own.convert)
                        | (at_builtin; refine wpList_append_fits _ rfl (.tmp 166) (.tmp 167) 28 rfl w.heap.size 5 i0 1 Tryd.underlying28 hi hz1 bo _ (s.size + 2) _ rfl own.2 ⟨b3, 0, none⟩ E.length s.size (E.map bv) rfl (by simp) (own.1.1.2.2.1.cells rfl) (ones _) (by omega) ?_; intro w6 ho hg; have own := own.puts E E.length ho hg; clear ho hg; (try simp only [Nat.zero_add] at own); have hcv := own.convert))
                    go_ret3
                    refine ⟨dec_ret s _ _ ?_, own.1.1.2.2.2⟩
                    rw [unhide HACC]
                    first | (simp [numL, (unhide HX).symm, x0, f0]; done) | (simp [numL, (unhide HX).symm, x0]; done) | (simp [numL, (unhide HX).symm, f0]; done) | (simp [numL, (unhide HX).symm]; done)
                · have f1 : 0 < F.length := List.length_pos_iff.2 f0
                  obtain rfl : pt = true := unhide HFP f0
                  clear HFP
                  simp only [Bool.toNat_true, Bool.toNat_false] at hsum
                  go_wp2_with (first
                      | (at_make; refine wpList_make_own _ rfl (.const (.int .i64 0)) (.tmp 138) 28 rfl w.heap.size 5 i0 (.int .u8 0) 1 Tryd.underlying28 hi hz0 hz1 .i64 .i64 _ (s.size + 2) rfl rfl (by omega) (by rw [hz2]; omega) (by unfold maxLen; omega) hBw ?_; intro w5 hm5 hg5; have own := Own4.start own hm5 hg5; clear hm5 hg5; generalize wr.heap.size = bo at *)
                      | (at_builtin; refine wpList_append_fits _ rfl (.tmp 141) (.tmp 142) 28 rfl w.heap.size 5 i0 1 Tryd.underlying28 hi hz1 bo _ (s.size + 2) _ rfl (own.2.alloc _) ⟨_, 0, none⟩ 1 1 [bv 45] rfl rfl (cell_one_new _ _ _) (by intro u hu; simp at hu; subst hu; rfl) (by omega) ?_; intro w6 ho hg; have own := own.put 45 ho hg; clear ho hg; (try simp only [Nat.zero_add] at own); have hcv := own.convert)
                      | (at_builtin; refine wpList_append_fits _ rfl (.tmp 147) (.tmp 148) 28 rfl w.heap.size 5 i0 1 Tryd.underlying28 hi hz1 bo _ (s.size + 2) _ rfl (own.2.alloc _) ⟨_, 0, none⟩ 1 1 [bv 48] rfl rfl (cell_one_new _ _ _) (by intro u hu; simp at hu; subst hu; rfl) (by omega) ?_; intro w6 ho hg; have own := own.put 48 ho hg; clear ho hg; (try simp only [Nat.zero_add] at own); have hcv := own.convert)
                      | (at_builtin; refine wpList_append_fits _ rfl (.tmp 150) (.tmp 151) 28 rfl w.heap.size 5 i0 1 Tryd.underlying28 hi hz1 bo _ (s.size + 2) _ rfl own.2 ⟨w.heap.size, 0, none⟩ X.length s.size (X.map bv) rfl (by simp) (own.1.1.1.cells rfl) (ones _) (by omega) ?_; intro w6 ho hg; have own := own.puts X X.length ho hg; clear ho hg; (try simp only [Nat.zero_add] at own); have hcv := own.convert)
                      | (at_builtin; refine wpList_append_fits _ rfl (.tmp 156) (.tmp 157) 28 rfl w.heap.size 5 i0 1 Tryd.underlying28 hi hz1 bo _ (s.size + 2) _ rfl (own.2.alloc _) ⟨_, 0, none⟩ 1 1 [bv 46] rfl rfl (cell_one_new _ _ _) (by intro u hu; simp at hu; subst hu; rfl) (by omega) ?_; intro w6 ho hg; have own := own.put 46 ho hg; clear ho hg; (try simp only [Nat.zero_add] at own); have hcv := own.convert)
                      | (at_builtin; refine wpList_append_fits _ rfl (.tmp 159) (.tmp 160) 28 rfl w.heap.size 5 i0 1 Tryd.underlying28 hi hz1 bo _ (s.size + 2) _ rfl own.2 ⟨b2, 0, none⟩ F.length s.size (F.map bv) rfl (by simp) (own.1.1.2.1.cells rfl) (ones _) (by omega) ?_; intro w6 ho hg; have own := own.puts F F.length ho hg; clear ho hg; (try simp only [Nat.zero_add] at own); have hcv := own.convert)
                      | (at_builtin; refine wpList_append_fits _ rfl (.tmp 163) (.tmp 164) 28 rfl w.heap.size 5 i0 1 Tryd.underlying28 hi hz1 bo _ (s.size + 2) _ rfl (own.2.alloc _) ⟨_, 0, none⟩ 1 1 [bv 101] rfl rfl (cell_one_new _ _ _) (by intro u hu; simp at hu; subst hu; rfl) (by omega) ?_; intro w6 ho hg; have own := own.put 101 ho hg; clear ho hg; (try simp only [Nat.zero_add] at own); have hcv := own.convert)
                      | (at_builtin; refine wpList_append_fits _ rfl (.tmp 166) (.tmp 167) 28 rfl w.heap.size 5 i0 1 Tryd.underlying28 hi hz1 bo _ (s.size + 2) _ rfl own.2 ⟨b3, 0, none⟩ E.length s.size (E.map bv) rfl (by simp) (own.1.1.2.2.1.cells rfl) (ones _) (by omega) ?_; intro w6 ho hg; have own := own.puts E E.length ho hg; clear ho hg; (try simp only [Nat.zero_add] at own); have hcv := own.convert))
                  go_ret3
                  refine ⟨dec_ret s _ _ ?_, own.1.1.2.2.2⟩
                  rw [unhide HACC]
                  first | (simp [numL, (unhide HX).symm, x0, f0]; done) | (simp [numL, (unhide HX).symm, x0]; done) | (simp [numL, (unhide HX).symm, f0]; done) | (simp [numL, (unhide HX).symm]; done)
              · have x1 : ((X.length : Int) == 0) = false := by
                  have := List.length_pos_iff.2 x0
                  rw [beq_eq_false_iff_ne]; omega
                by_cases f0 : F = []
                · subst f0
                  have wn : ¬ W = [] := fun e => unhide Z0 (by rw [e]; rfl)
                  cases pt
                  · clear HFP
                    simp only [Bool.toNat_true, Bool.toNat_false] at hsum
                    go_wp2_with (first
                        | (at_make; refine wpList_make_own _ rfl (.const (.int .i64 0)) (.tmp 138) 28 rfl w.heap.size 5 i0 (.int .u8 0) 1 Tryd.underlying28 hi hz0 hz1 .i64 .i64 _ (s.size + 2) rfl rfl (by omega) (by rw [hz2]; omega) (by unfold maxLen; omega) hBw ?_; intro w5 hm5 hg5; have own := Own4.start own hm5 hg5; clear hm5 hg5; generalize wr.heap.size = bo at *)
                        | (at_builtin; refine wpList_append_fits _ rfl (.tmp 141) (.tmp 142) 28 rfl w.heap.size 5 i0 1 Tryd.underlying28 hi hz1 bo _ (s.size + 2) _ rfl (own.2.alloc _) ⟨_, 0, none⟩ 1 1 [bv 45] rfl rfl (cell_one_new _ _ _) (by intro u hu; simp at hu; subst hu; rfl) (by omega) ?_; intro w6 ho hg; have own := own.put 45 ho hg; clear ho hg; (try simp only [Nat.zero_add] at own); have hcv := own.convert)
                        | (at_builtin; refine wpList_append_fits _ rfl (.tmp 147) (.tmp 148) 28 rfl w.heap.size 5 i0 1 Tryd.underlying28 hi hz1 bo _ (s.size + 2) _ rfl (own.2.alloc _) ⟨_, 0, none⟩ 1 1 [bv 48] rfl rfl (cell_one_new _ _ _) (by intro u hu; simp at hu; subst hu; rfl) (by omega) ?_; intro w6 ho hg; have own := own.put 48 ho hg; clear ho hg; (try simp only [Nat.zero_add] at own); have hcv := own.convert)
                        | (at_builtin; refine wpList_append_fits _ rfl (.tmp 150) (.tmp 151) 28 rfl w.heap.size 5 i0 1 Tryd.underlying28 hi hz1 bo _ (s.size + 2) _ rfl own.2 ⟨w.heap.size, 0, none⟩ X.length s.size (X.map bv) rfl (by simp) (own.1.1.1.cells rfl) (ones _) (by omega) ?_; intro w6 ho hg; have own := own.puts X X.length ho hg; clear ho hg; (try simp only [Nat.zero_add] at own); have hcv := own.convert)
                        | (at_builtin; refine wpList_append_fits _ rfl (.tmp 156) (.tmp 157) 28 rfl w.heap.size 5 i0 1 Tryd.underlying28 hi hz1 bo _ (s.size + 2) _ rfl (own.2.alloc _) ⟨_, 0, none⟩ 1 1 [bv 46] rfl rfl (cell_one_new _ _ _) (by intro u hu; simp at hu; subst hu; rfl) (by omega) ?_; intro w6 ho hg; have own := own.put 46 ho hg; clear ho hg; (try simp only [Nat.zero_add] at own); have hcv := own.convert)
                        | (at_builtin; refine wpList_append_fits _ rfl (.tmp 159) (.tmp 160) 28 rfl w.heap.size 5 i0 1 Tryd.underlying28 hi hz1 bo _ (s.size + 2) _ rfl own.2 ⟨b2, 0, none⟩ F.length s.size (F.map bv) rfl (by simp) (own.1.1.2.1.cells rfl) (ones _) (by omega) ?_; intro w6 ho hg; have own := own.puts F F.length ho hg; clear ho hg; (try simp only [Nat.zero_add] at own); have hcv := own.convert)
                        | (at_builtin; refine wpList_append_fits _ rfl (.tmp 163) (.tmp 164) 28 rfl w.heap.size 5 i0 1 Tryd.underlying28 hi hz1 bo _ (s.size + 2) _ rfl (own.2.alloc _) ⟨_, 0, none⟩ 1 1 [bv 101] rfl rfl (cell_one_new _ _ _) (by intro u hu; simp at hu; subst hu; rfl) (by omega) ?_; intro w6 ho hg; have own := own.put 101 ho hg; clear ho hg; (try simp only [Nat.zero_add] at own); have hcv := own.convert)
                        | (at_builtin; refine wpList_append_fits _ rfl (.tmp 166) (.tmp 167) 28 rfl w.heap.size 5 i0 1 Tryd.underlying28 hi hz1 bo _ (s.size + 2) _ rfl own.2 ⟨b3, 0, none⟩ E.length s.size (E.map bv) rfl (by simp) (own.1.1.2.2.1.cells rfl) (ones _) (by omega) ?_; intro w6 ho hg; have own := own.puts E E.length ho hg; clear ho hg; (try simp only [Nat.zero_add] at own); have hcv := own.convert))
                    go_ret3
                    refine ⟨dec_ret s _ _ ?_, own.1.1.2.2.2⟩
                    rw [unhide HACC]
                    first | (simp [numL, (unhide HX).symm, x0, f0]; done) | (simp [numL, (unhide HX).symm, x0]; done) | (simp [numL, (unhide HX).symm, f0]; done) | (simp [numL, (unhide HX).symm]; done)
                  · clear HFP
                    simp only [Bool.toNat_true, Bool.toNat_false] at hsum
                    go_wp2_with (first
                        | (at_make; refine wpList_make_own _ rfl (.const (.int .i64 0)) (.tmp 138) 28 rfl w.heap.size 5 i0 (.int .u8 0) 1 Tryd.underlying28 hi hz0 hz1 .i64 .i64 _ (s.size + 2) rfl rfl (by omega) (by rw [hz2]; omega) (by unfold maxLen; omega) hBw ?_; intro w5 hm5 hg5; have own := Own4.start own hm5 hg5; clear hm5 hg5; generalize wr.heap.size = bo at *)
                        | (at_builtin; refine wpList_append_fits _ rfl (.tmp 141) (.tmp 142) 28 rfl w.heap.size 5 i0 1 Tryd.underlying28 hi hz1 bo _ (s.size + 2) _ rfl (own.2.alloc _) ⟨_, 0, none⟩ 1 1 [bv 45] rfl rfl (cell_one_new _ _ _) (by intro u hu; simp at hu; subst hu; rfl) (by omega) ?_; intro w6 ho hg; have own := own.put 45 ho hg; clear ho hg; (try simp only [Nat.zero_add] at own); have hcv := own.convert)
                        | (at_builtin; refine wpList_append_fits _ rfl (.tmp 147) (.tmp 148) 28 rfl w.heap.size 5 i0 1 Tryd.underlying28 hi hz1 bo _ (s.size + 2) _ rfl (own.2.alloc _) ⟨_, 0, none⟩ 1 1 [bv 48] rfl rfl (cell_one_new _ _ _) (by intro u hu; simp at hu; subst hu; rfl) (by omega) ?_; intro w6 ho hg; have own := own.put 48 ho hg; clear ho hg; (try simp only [Nat.zero_add] at own); have hcv := own.convert)
                        | (at_builtin; refine wpList_append_fits _ rfl (.tmp 150) (.tmp 151) 28 rfl w.heap.size 5 i0 1 Tryd.underlying28 hi hz1 bo _ (s.size + 2) _ rfl own.2 ⟨w.heap.size, 0, none⟩ X.length s.size (X.map bv) rfl (by simp) (own.1.1.1.cells rfl) (ones _) (by omega) ?_; intro w6 ho hg; have own := own.puts X X.length ho hg; clear ho hg; (try simp only [Nat.zero_add] at own); have hcv := own.convert)
                        | (at_builtin; refine wpList_append_fits _ rfl (.tmp 156) (.tmp 157) 28 rfl w.heap.size 5 i0 1 Tryd.underlying28 hi hz1 bo _ (s.size + 2) _ rfl (own.2.alloc _) ⟨_, 0, none⟩ 1 1 [bv 46] rfl rfl (cell_one_new _ _ _) (by intro u hu; simp at hu; subst hu; rfl) (by omega) ?_; intro w6 ho hg; have own := own.put 46 ho hg; clear ho hg; (try simp only [Nat.zero_add] at own); have hcv := own.convert)
                        | (at_builtin; refine wpList_append_fits _ rfl (.tmp 159) (.tmp 160) 28 rfl w.heap.size 5 i0 1 Tryd.underlying28 hi hz1 bo _ (s.size + 2) _ rfl own.2 ⟨b2, 0, none⟩ F.length s.size (F.map bv) rfl (by simp) (own.1.1.2.1.cells rfl) (ones _) (by omega) ?_; intro w6 ho hg; have own := own.puts F F.length ho hg; clear ho hg; (try simp only [Nat.zero_add] at own); have hcv := own.convert)
                        | (at_builtin; refine wpList_append_fits _ rfl (.tmp 163) (.tmp 164) 28 rfl w.heap.size 5 i0 1 Tryd.underlying28 hi hz1 bo _ (s.size + 2) _ rfl (own.2.alloc _) ⟨_, 0, none⟩ 1 1 [bv 101] rfl rfl (cell_one_new _ _ _) (by intro u hu; simp at hu; subst hu; rfl) (by omega) ?_; intro w6 ho hg; have own := own.put 101 ho hg; clear ho hg; (try simp only [Nat.zero_add] at own); have hcv := own.convert)
                        | (at_builtin; refine wpList_append_fits _ rfl (.tmp 166) (.tmp 167) 28 rfl w.heap.size 5 i0 1 Tryd.underlying28 hi hz1 bo _ (s.size + 2) _ rfl own.2 ⟨b3, 0, none⟩ E.length s.size (E.map bv) rfl (by simp) (own.1.1.2.2.1.cells rfl) (ones _) (by omega) ?_; intro w6 ho hg; have own := own.puts E E.length ho hg; clear ho hg; (try simp only [Nat.zero_add] at own); have hcv := own.convert))
                    go_ret3
                    refine ⟨dec_ret s _ _ ?_, own.1.1.2.2.2⟩
                    rw [unhide HACC]
                    first | (simp [numL, (unhide HX).symm, x0, f0]; done) | (simp [numL, (unhide HX).symm, x0]; done) | (simp [numL, (unhide HX).symm, f0]; done) | (simp [numL, (unhide HX).symm]; done)
                · have f1 : 0 < F.length := List.length_pos_iff.2 f0
                  obtain rfl : pt = true := unhide HFP f0
                  clear HFP
                  simp only [Bool.toNat_true, Bool.toNat_false] at hsum
                  go_wp2_with (first
                      | (at_make; refine wpList_make_own _ rfl (.const (.int .i64 0)) (.tmp 138) 28 rfl w.heap.size 5 i0 (.int .u8 0) 1 Tryd.underlying28 hi hz0 hz1 .i64 .i64 _ (s.size + 2) rfl rfl (by omega) (by rw [hz2]; omega) (by unfold maxLen; omega) hBw ?_; intro w5 hm5 hg5; have own := Own4.start own hm5 hg5; clear hm5 hg5; generalize wr.heap.size = bo at *)
                      | (at_builtin; refine wpList_append_fits _ rfl (.tmp 141) (.tmp 142) 28 rfl w.heap.size 5 i0 1 Tryd.underlying28 hi hz1 bo _ (s.size + 2) _ rfl (own.2.alloc _) ⟨_, 0, none⟩ 1 1 [bv 45] rfl rfl (cell_one_new _ _ _) (by intro u hu; simp at hu; subst hu; rfl) (by omega) ?_; intro w6 ho hg; have own := own.put 45 ho hg; clear ho hg; (try simp only [Nat.zero_add] at own); have hcv := own.convert)
                      | (at_builtin; refine wpList_append_fits _ rfl (.tmp 147) (.tmp 148) 28 rfl w.heap.size 5 i0 1 Tryd.underlying28 hi hz1 bo _ (s.size + 2) _ rfl (own.2.alloc _) ⟨_, 0, none⟩ 1 1 [bv 48] rfl rfl (cell_one_new _ _ _) (by intro u hu; simp at hu; subst hu; rfl) (by omega) ?_; intro w6 ho hg; have own := own.put 48 ho hg; clear ho hg; (try simp only [Nat.zero_add] at own); have hcv := own.convert)
                      | (at_builtin; refine wpList_append_fits _ rfl (.tmp 150) (.tmp 151) 28 rfl w.heap.size 5 i0 1 Tryd.underlying28 hi hz1 bo _ (s.size + 2) _ rfl own.2 ⟨w.heap.size, 0, none⟩ X.length s.size (X.map bv) rfl (by simp) (own.1.1.1.cells rfl) (ones _) (by omega) ?_; intro w6 ho hg; have own := own.puts X X.length ho hg; clear ho hg; (try simp only [Nat.zero_add] at own); have hcv := own.convert)
                      | (at_builtin; refine wpList_append_fits _ rfl (.tmp 156) (.tmp 157) 28 rfl w.heap.size 5 i0 1 Tryd.underlying28 hi hz1 bo _ (s.size + 2) _ rfl (own.2.alloc _) ⟨_, 0, none⟩ 1 1 [bv 46] rfl rfl (cell_one_new _ _ _) (by intro u hu; simp at hu; subst hu; rfl) (by omega) ?_; intro w6 ho hg; have own := own.put 46 ho hg; clear ho hg; (try simp only [Nat.zero_add] at own); have hcv := own.convert)
                      | (at_builtin; refine wpList_append_fits _ rfl (.tmp 159) (.tmp 160) 28 rfl w.heap.size 5 i0 1 Tryd.underlying28 hi hz1 bo _ (s.size + 2) _ rfl own.2 ⟨b2, 0, none⟩ F.length s.size (F.map bv) rfl (by simp) (own.1.1.2.1.cells rfl) (ones _) (by omega) ?_; intro w6 ho hg; have own := own.puts F F.length ho hg; clear ho hg; (try simp only [Nat.zero_add] at own); have hcv := own.convert)
                      | (at_builtin; refine wpList_append_fits _ rfl (.tmp 163) (.tmp 164) 28 rfl w.heap.size 5 i0 1 Tryd.underlying28 hi hz1 bo _ (s.size + 2) _ rfl (own.2.alloc _) ⟨_, 0, none⟩ 1 1 [bv 101] rfl rfl (cell_one_new _ _ _) (by intro u hu; simp at hu; subst hu; rfl) (by omega) ?_; intro w6 ho hg; have own := own.put 101 ho hg; clear ho hg; (try simp only [Nat.zero_add] at own); have hcv := own.convert)
                      | (at_builtin; refine wpList_append_fits _ rfl (.tmp 166) (.tmp 167) 28 rfl w.heap.size 5 i0 1 Tryd.underlying28 hi hz1 bo _ (s.size + 2) _ rfl own.2 ⟨b3, 0, none⟩ E.length s.size (E.map bv) rfl (by simp) (own.1.1.2.2.1.cells rfl) (ones _) (by omega) ?_; intro w6 ho hg; have own := own.puts E E.length ho hg; clear ho hg; (try simp only [Nat.zero_add] at own); have hcv := own.convert))
                  go_ret3
                  refine ⟨dec_ret s _ _ ?_, own.1.1.2.2.2⟩
                  rw [unhide HACC]
                  first | (simp [numL, (unhide HX).symm, x0, f0]; done) | (simp [numL, (unhide HX).symm, x0]; done) | (simp [numL, (unhide HX).symm, f0]; done) | (simp [numL, (unhide HX).symm]; done)


end Go.Proofs.Qxb6603916aDoor
