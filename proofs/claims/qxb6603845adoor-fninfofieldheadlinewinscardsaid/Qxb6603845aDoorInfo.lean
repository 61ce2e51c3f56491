/-
  THE WALK of infoField, seat b6603845aD, at a text whose FIRST line, trimmed, is the field, a colon, a value.
-/
import Derived.Test.Qxb6603845aDoorFirst
namespace Go.Proofs.Qxb6603845aDoor
open Go.RowKit Go.Lib Plain Go.Shelf
attribute [local go_sem] Oper.semAt_some

theorem box_set {W : World} {B : Nat} {v : Value} {t : TypeId} (h : W.heap[B]? = some (.cells #[v] t (0, 0))) (u : Value) : (W.setCell ⟨B, 0, none⟩ u).heap[B]? = some (.cells #[u] t (0, 0)) := by
  obtain ⟨hb, he⟩ := Array.getElem?_eq_some_iff.1 h
  simp only [World.setCell]
  rw [Array.getElem?_eq_getElem (by simpa using hb), Array.getElem_modify]
  simp [he]

/-- What the library's functions on the road read. -/
structure Tabs (w : World) : Prop where
  m : ∃ m, w.cell? ⟨2, 0, none⟩ = some (.int .i64 m)
  sp : Lib.TabIs Tryd.prog w "strings.asciiSpace" .u8 Lib.asciiSpaceTab
  u8 : Lib.Utf8Tabs 3 4 w
  ws : Lib.WhiteTab 1 w

theorem Tabs.below {w W : World} (T : Tabs w) (h : Below w.heap.size w W) : Tabs W := by
  obtain ⟨m, hm⟩ := T.m
  have hsp : Lib.TabIs Tryd.prog W "strings.asciiSpace" .u8 Lib.asciiSpaceTab := by
    have h0 := T.sp
    unfold Lib.TabIs World.var? at h0 ⊢
    cases hg : Tryd.prog.globalNamed "strings.asciiSpace" with
    | none => rw [hg] at h0; cases h0
    | some g =>
      rw [hg] at h0
      simp only [Option.bind_some] at h0 ⊢
      rcases Nat.lt_or_ge g w.heap.size with h' | h'
      · rw [h.block g h']; exact h0
      · rw [Array.getElem?_eq_none h'] at h0; cases h0
  refine ⟨⟨m, ?_⟩, hsp, Utf8Tabs_below T.u8 h, WhiteTab_below T.ws h⟩
  refine (h.cell (p := ⟨2, 0, none⟩) ?_).trans hm
  rcases Nat.lt_or_ge 2 w.heap.size with h' | h'
  · exact h'
  · simp [World.cell?, Array.getElem?_eq_none h'] at hm

set_option maxRecDepth 100000 in
set_option maxHeartbeats 2000000 in
theorem infoField_first (info field : ByteArray) (v : List UInt8) (i : Nat) (hi : Lib.indexByte info.data.toList 10 = (i : Int)) (hlt : i < info.size) (hs : info.size ≤ 4194304)
    (hts : (Lib.trimSpaceD (info.extract 0 (i + 1)).data.toList).length < 4294967281) (hcut : Lib.cut (Lib.trimSpaceD (info.extract 0 (i + 1)).data.toList) [58] = (field.data.toList, v, true)) (w : World) (T : Tabs w) :
    Calls Tryd.prog 11 #[.string info, .string field] w fun e w' => e = .returned (.tuple #[.string ⟨v.toArray⟩, .bool true]) ∧ Below w.heap.size w w' := by
  have HI := hide hi
  obtain ⟨line, hline⟩ : ∃ line, line = info.extract 0 (i + 1) := ⟨_, rfl⟩
  rw [← hline] at hts hcut
  have hls : line.size ≤ 4194304 := by rw [hline, ByteArray.size_extract]; omega
  obtain ⟨t, ht⟩ : ∃ t : ByteArray, t = ⟨(Lib.trimSpaceD line.data.toList).toArray⟩ := ⟨_, rfl⟩
  have HC : Hid (Lib.cut t.data.toList [58] = (field.data.toList, v, true)) := hide (by rw [ht]; exact hcut)
  have hts' : t.size < 4294967281 := by rw [ht]; show (Lib.trimSpaceD line.data.toList).toArray.size < _; simpa using hts
  have HL := hide hline
  have HT := hide ht
  clear hi hcut hts hline ht
  refine (callsIn_wide (n := 3)).1 ?_
  refine callsIn_of_wp_marks Tryd.func11 rfl trivial ?_ rfl
  simp only [Tryd.ntmps11, List.size_toArray, List.length_cons, List.length_nil, Nat.reduceAdd, Nat.reduceSub, Array.replicate_succ, Array.replicate_zero, List.push_toArray, List.append_toArray, List.nil_append, List.cons_append]
  gi_wp2
  refine ⟨trivial, ?_⟩
  refine (callsIn_wide.2 (lines_any info _)).mono ?_
  rintro e w1 ⟨rfl, rfl⟩
  gi_wp2
  obtain ⟨W0, hW0⟩ : ∃ W0, (((w.alloc (.cells #[.string field] 9)).alloc (.cells #[.string { data := #[] }] 9)).alloc (.cells #[.bool false] 4)).alloc (.cells #[.string info] 9) = W0 := ⟨_, rfl⟩
  have hs0 : W0.heap.size = w.heap.size + 4 := by rw [← hW0]; simp
  have hB0 : W0.heap[w.heap.size]? = some (.cells #[.string field] 9 (0, 0)) := by
    rw [← hW0]; exact (((Below.heap_alloc _ _ _ (by simp; omega)).trans (Below.heap_alloc _ _ _ (by simp; omega))).trans (Below.heap_alloc _ _ _ (by simp))).trans (World.alloc_heap_new w _)
  have hB1 : W0.heap[w.heap.size + 1]? = some (.cells #[.string { data := #[] }] 9 (0, 0)) := by
    rw [← hW0]; refine ((Below.heap_alloc _ _ _ (by simp)).trans (Below.heap_alloc _ _ _ (by simp))).trans ?_
    have := World.alloc_heap_new (w.alloc (.cells #[.string field] 9)) (.cells #[.string { data := #[] }] 9); rwa [World.size_alloc] at this
  have hB2 : W0.heap[w.heap.size + 1 + 1]? = some (.cells #[.bool false] 4 (0, 0)) := by
    rw [← hW0]; refine (Below.heap_alloc _ _ _ (by simp)).trans ?_
    have := World.alloc_heap_new ((w.alloc (.cells #[.string field] 9)).alloc (.cells #[.string { data := #[] }] 9)) (.cells #[.bool false] 4); rwa [World.size_alloc, World.size_alloc] at this
  have hB3 : W0.heap[w.heap.size + 1 + 1 + 1]? = some (.cells #[.string info] 9 (0, 0)) := by
    rw [← hW0]
    have := World.alloc_heap_new (((w.alloc (.cells #[.string field] 9)).alloc (.cells #[.string { data := #[] }] 9)).alloc (.cells #[.bool false] 4)) (.cells #[.string info] 9); rwa [World.size_alloc, World.size_alloc, World.size_alloc] at this
  have hb0 : Below w.heap.size w W0 := by
    rw [← hW0]; exact ((((Below.refl _ w).alloc (Nat.le_refl _) _).alloc (by simp) _).alloc (by simp; omega) _).alloc (by simp; omega) _
  rw [hW0]
  have hsz : (((w.alloc (.cells #[.string field] 9)).alloc (.cells #[.string { data := #[] }] 9)).alloc (.cells #[.bool false] 4)).heap.size = w.heap.size + 1 + 1 + 1 := by simp
  (try rw [hsz])
  clear hW0
  refine wpIn_rangeFunc_first (gf := 16) (lb := #[.pointer (some ⟨w.heap.size + 1 + 1 + 1, 0, none⟩)]) rfl (enters_of Tryd.func16 (by kernel_rfl) rfl) #[.string line] rfl (w.heap.size + 1 + 1 + 1) (by omega)
    (fun W => (W.setCell ⟨w.heap.size + 1 + 1 + 1, 0, none⟩ (.string (info.extract (i + 1) info.size))).drew) ?hst ?hiter
    (fun W => Below w.heap.size w W ∧ W.heap[w.heap.size + 1]? = some (.cells #[.string ⟨v.toArray⟩] 9 (0, 0)) ∧ W.heap[w.heap.size + 1 + 1]? = some (.cells #[.bool true] 4 (0, 0))) ?hRb
    { tmps := #[.string info, .string field, undef, .pointer (some ⟨w.heap.size, 0, none⟩), .pointer (some ⟨w.heap.size + 1, 0, none⟩), .pointer (some ⟨w.heap.size + 1 + 1, 0, none⟩), .string line, undef, undef, undef,
      .string info, .func (.func 16) #[] #[.pointer (some ⟨w.heap.size + 1 + 1 + 1, 0, none⟩)], .string line, undef, undef, undef, undef, undef, undef, undef, undef, undef, undef, undef, undef, undef, undef], defers := [] } ?assign ?body ?stop
  case hst =>
    intro W
    have hb := ((Below.refl 0 W).setCell (p := ⟨w.heap.size + 1 + 1 + 1, 0, none⟩) (Nat.zero_le _) (.string (info.extract (i + 1) info.size))).drew
    exact ⟨hb.os, hb.tape, hb.output, by simp, fun k hk => Below.heap_setCell W _ _ k hk⟩
  case hiter =>
    intro l W R hW hY
    have hB := (hW.block (w.heap.size + 1 + 1 + 1) (by omega)).trans hB3
    exact lines1 _ l _ info i (unhide HI) hlt hs W (by simp [World.cell?, hB]) (by simp [World.frozen?, hB]) R (fun W1 e => by rw [e, ← unhide HL]; exact hY)
  case hRb =>
    rintro W k o hk ⟨h1, h2, h3⟩
    exact ⟨⟨h1.os, h1.tape, h1.output, by rw [World.putObj_size]; exact h1.size, fun j hj => (World.putObj_heap_other (by omega)).trans (h1.block j hj)⟩,
      (World.putObj_heap_other (by omega)).trans h2, (World.putObj_heap_other (by omega)).trans h3⟩
  case assign =>
    intro l W K hK
    gi_wp2
    exact hK
  case body =>
    intro l W hN
    have hbW : Below w.heap.size w W := ⟨hN.os.trans hb0.os, hN.tape.trans hb0.tape, hN.output.trans hb0.output, by have := hN.size; omega, fun k hk => (hN.block k (by omega) (by omega)).trans (hb0.block k hk)⟩
    have hsW : w.heap.size + 6 ≤ W.heap.size := by have := hN.size; omega
    have TW := T.below hbW
    have f0 := (hN.block w.heap.size (by omega) (by omega)).trans hB0
    have f1 := (hN.block (w.heap.size + 1) (by omega) (by omega)).trans hB1
    have f2 := (hN.block (w.heap.size + 1 + 1) (by omega) (by omega)).trans hB2
    have C15 := Tryd.strings_TrimSpace_any line W (by omega) TW.sp TW.u8 TW.ws
    rw [← unhide HT] at C15
    have HS := hide hs0
    clear hN hB0 hB1 hB2 hB3 hb0 hs0 TW
    gi_wp2
    refine ⟨trivial, (CallsIn.inRound l (callsIn_wide.2 C15)).mono ?_⟩
    rintro e W3 ⟨rfl, hb3⟩
    have hbW3 : Below w.heap.size w W3 := hbW.trans (hb3.mono (by omega))
    obtain ⟨m, hm⟩ := (T.below hbW3).m
    have C14 := Tryd.strings_Cut t ⟨#[58]⟩ m W3 hts' hm
    rw [show (⟨#[58]⟩ : ByteArray).data.toList = [58] from rfl, unhide HC] at C14
    dsimp only at C14
    rw [show (⟨field.data.toList.toArray⟩ : ByteArray) = field from rfl] at C14
    have k3 : ∀ k, k < W.heap.size → W3.heap[k]? = W.heap[k]? := fun k hk => hb3.block k hk
    gi_wp2
    refine ⟨trivial, (CallsIn.inRound l (callsIn_wide.2 C14)).mono ?_⟩
    rintro e W4 ⟨rfl, hw4⟩
    have hh4 : W4.heap = W3.heap := by obtain ⟨n, rfl⟩ := hw4; rfl
    have hbW4 : Below w.heap.size w W4 := by obtain ⟨n, rfl⟩ := hw4; exact hbW3.trans ⟨rfl, rfl, rfl, Nat.le_refl _, fun _ _ => rfl⟩
    clear hw4 C14 C15 hm hbW3
    have g0 : W4.heap[w.heap.size]? = some (.cells #[.string field] 9 (0, 0)) := by rw [hh4, k3 _ (by omega)]; exact f0
    have g1 : W4.heap[w.heap.size + 1]? = some (.cells #[.string { data := #[] }] 9 (0, 0)) := by rw [hh4, k3 _ (by omega)]; exact f1
    have g2 : W4.heap[w.heap.size + 1 + 1]? = some (.cells #[.bool false] 4 (0, 0)) := by rw [hh4, k3 _ (by omega)]; exact f2
    have k4 : ∀ k, k < W.heap.size → W4.heap[k]? = W.heap[k]? := fun k hk => by rw [hh4]; exact k3 k hk
    clear hh4 k3 f0 f1 f2 hb3
    have c0 : W4.cell? ⟨w.heap.size, 0, none⟩ = some (.string field) := by simp [World.cell?, g0]
    have c1 : W4.cell? ⟨w.heap.size + 1, 0, none⟩ = some (.string { data := #[] }) := by simp [World.cell?, g1]
    have z1 : W4.frozen? ⟨w.heap.size + 1, 0, none⟩ = false := by simp [World.frozen?, g1]
    have c2 : W4.cell? ⟨w.heap.size + 1 + 1, 0, none⟩ = some (.bool false) := by simp [World.cell?, g2]
    have z2 : W4.frozen? ⟨w.heap.size + 1 + 1, 0, none⟩ = false := by simp [World.frozen?, g2]
    gi_wp2
    have hs0 := unhide HS
    refine ⟨fun k h1 h2 => ?_, ?_, ?_, ?_⟩
    · rw [Below.heap_setCell _ _ _ k (show k ≠ w.heap.size + 1 + 1 by omega), Below.heap_setCell _ _ _ k (show k ≠ w.heap.size + 1 by omega)]
      exact k4 k (by omega)
    · exact (hbW4.setCell (p := ⟨w.heap.size + 1, 0, none⟩) (by show w.heap.size ≤ w.heap.size + 1; omega) _).setCell (p := ⟨w.heap.size + 1 + 1, 0, none⟩) (by show w.heap.size ≤ w.heap.size + 1 + 1; omega) _
    · rw [Below.heap_setCell _ _ _ _ (show w.heap.size + 1 ≠ w.heap.size + 1 + 1 by omega)]
      exact box_set g1 _
    · exact box_set ((Below.heap_setCell _ _ _ _ (show w.heap.size + 1 + 1 ≠ w.heap.size + 1 by omega)).trans g2) _
  case stop =>
    rintro W ⟨h1, h2, h3⟩ hK
    gi_wp2
    refine ⟨by simp, .inl ⟨_, _, rfl, run_takeDeferred hK, ?_⟩⟩
    have c1 : (W.putObj W0.heap.size (.deferred none)).cell? ⟨w.heap.size + 1, 0, none⟩ = some (.string ⟨v.toArray⟩) :=
      (World.cell?_of_block (World.putObj_heap_other (k := w.heap.size + 1) (by omega))).trans (by simp [World.cell?, h2])
    have c2 : (W.putObj W0.heap.size (.deferred none)).cell? ⟨w.heap.size + 1 + 1, 0, none⟩ = some (.bool true) :=
      (World.cell?_of_block (World.putObj_heap_other (k := w.heap.size + 1 + 1) (by omega))).trans (by simp [World.cell?, h3])
    refine ⟨.tuple #[.string ⟨v.toArray⟩, .bool true], ?_, rfl, ⟨h1.os, h1.tape, h1.output, by rw [World.putObj_size]; exact h1.size, fun j hj => (World.putObj_heap_other (by omega)).trans (h1.block j hj)⟩⟩
    simp [results, Tryd.f11, go_sem, c1, c2]
end Go.Proofs.Qxb6603845aDoor
