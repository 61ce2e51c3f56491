/-
  A LAW OF MY OWN for 'for x := range g { .. }', seat b6603845aD: THE ITERATOR TURNS A CELL THAT IT HAS CAPTURED (block bB) AND CALLS yield ONCE; THE BODY LEAVES BY 'return' IN THAT ROUND. (The kit's laws ask of an iterator that it leave the blocks below the loop's beginning as they lay: strings.Lines does not.) Made after the proof of the kit's 'wpIn_rangeFunc_ownK', at the wide fence.
-/
import Derived.Test.Qxb6603845aDoorLines
namespace Go.Proofs.Qxb6603845aDoor
open Go.RowKit Go.Lib Go.Shelf

/-- As w was, but for block bB; two blocks more at the least. -/
structure Near (w : World) (bB : Nat) (W : World) : Prop where
  os : W.os = w.os
  tape : W.tape = w.tape
  output : W.output = w.output
  size : w.heap.size + 2 ≤ W.heap.size
  block : ∀ k, k < w.heap.size → k ≠ bB → W.heap[k]? = w.heap[k]?

theorem wpIn_rangeFunc_first {P : Program} {n : Nat} {g : Operand} {ps : Array Tmp} {assign body : Code} {Q : Exit → Act → World → Prop} {a : Act} {w : World}
    {gf : Nat} {lb : Array Value} (hg : a.eval g = .func (.func gf) #[] lb) (eg : ∀ args w, (callFunc gf args).run P w = .ok (.enter gf args) w)
    (xs : Array Value) (hps : xs.size = ps.size) (bB : Nat) (hB : bB < w.heap.size) (step : World → World)
    (hst : ∀ W, (step W).os = W.os ∧ (step W).tape = W.tape ∧ (step W).output = W.output ∧ (step W).heap.size = W.heap.size ∧ ∀ k, k ≠ bB → (step W).heap[k]? = W.heap[k]?)
    (hiter : ∀ l W (R : World → Prop), Below w.heap.size w W → YieldAt Fence.wide (n - 1 - 1) P l xs (step W) (fun e W' => e = .returned (.bool false) ∧ R W') →
      CallsIn Fence.wide (n - 1) P gf (#[.func (.yield l) #[] #[]] ++ lb) W fun e W' => (∃ v, e = .returned v) ∧ R W')
    (Rb : World → Prop) (hRb : ∀ W k o, w.heap.size ≤ k → Rb W → Rb (W.putObj k o)) (a₁ : Act)
    (hassign : ∀ (l : Nat) (W : World) (K : Act → World → Prop), K a₁ W →
      assign.wpIn (Fence.wide.inRound l) (n - 1 - 1) P (Exit.then K (fun _ _ _ => False)) { tmps := (ps.zip xs).foldl (fun t (p, v) => t.setIfInBounds p v) a.tmps, defers := [] } W)
    (hbody : ∀ (l : Nat) (W : World), Near w bB W → body.wpIn (Fence.wide.inRound l) (n - 1 - 1) P (fun e _ W' => e = .ret ∧ (∀ k, w.heap.size ≤ k → k < w.heap.size + 2 → W'.heap[k]? = W.heap[k]?) ∧ Rb W') a₁ W)
    (hstop : ∀ W, Rb W → W.heap[w.heap.size]? = some (.deferred (some [])) → Code.ret.wpIn Fence.wide n P Q { a with defers := { target := .collected w.heap.size, args := #[] } :: a.defers } W) :
    (Code.rangeFunc g ps assign body).wpIn Fence.wide n P Q a w := by
  refine wpIn_rangeFunc ?_
  intro fn hfn
  rw [show Fence.wide.round = none from rfl]
  obtain ⟨rec, hrec⟩ : ∃ rec : LoopState → Option Code → Loop, rec = fun st pe => { state := st, pending := pe, fn, tmps := a.tmps, params := ps, assign, body, defers := w.heap.size } := ⟨_, rfl⟩
  obtain ⟨W1, hW1⟩ : ∃ W1, (w.alloc (.deferred (some []))).alloc (.loop (rec .ready none)) = W1 := ⟨_, rfl⟩
  have hL1 : W1.heap[w.heap.size + 1]? = some (.loop (rec .ready none)) := by
    rw [← hW1]; have := World.alloc_heap_new (w.alloc (.deferred (some []))) (.loop (rec .ready none)); rwa [World.size_alloc] at this
  have hK1 : W1.heap[w.heap.size]? = some (.deferred (some [])) := by
    rw [← hW1]; exact (Below.heap_alloc _ _ _ (by simp)).trans (World.alloc_heap_new w _)
  have hb1 : Below w.heap.size w W1 := by
    rw [← hW1]; exact ((Below.refl _ w).alloc (Nat.le_refl _) _).alloc (by simp) _
  refine ⟨w.heap.size + 1, [{ target := .collected w.heap.size, args := #[] }], W1, { target := .fn (.func gf) lb, args := #[.func (.yield (w.heap.size + 1)) #[] #[]] }, W1, gf,
    #[.func (.yield (w.heap.size + 1)) #[] #[]] ++ lb, W1, ?_, ?_, ?_, ?_, (fun h => by cases h), ?_⟩
  · rw [← hW1, hrec]; exact run_enterLoop_outer _ _ _ _ _
  · simp only [resolve, hg]
    simp [go_sem]
  · intro f' _; trivial
  · simp [invoke, go_sem, eg]
  · obtain ⟨so, st, sp, ss, sb⟩ := hst W1
    have hLy : (step W1).heap[w.heap.size + 1]? = some (.loop (rec .ready none)) := (sb _ (by omega)).trans hL1
    have hKy : (step W1).heap[w.heap.size]? = some (.deferred (some [])) := (sb _ (by omega)).trans hK1
    have hlt : w.heap.size + 1 < (step W1).heap.size := (Array.getElem?_eq_some_iff.1 hLy).1
    refine (hiter (w.heap.size + 1) W1 (fun W => Rb W ∧ W.heap[w.heap.size + 1]? = some (.loop (rec .done (some .ret))) ∧ W.heap[w.heap.size]? = some (.deferred (some []))) hb1 ?_).mono ?_
    · have hy := run_yield (P := P) (args := xs) hLy (by rw [hrec]; exact hps)
      rw [hrec] at hy
      refine ⟨fn, _, assign, body, hy, roundIn_of_wpIn hfn (hassign _ (step W1) _ ⟨_, run_beginRound hLy (by rw [hrec]), ?_⟩)⟩
      obtain ⟨W2, hW2⟩ : ∃ W2, (step W1).putObj (w.heap.size + 1) (.loop { rec .ready none with state := .busy }) = W2 := ⟨_, rfl⟩
      rw [hW2]
      have hl2 : W2.heap[w.heap.size + 1]? = some (.loop { rec .ready none with state := .busy }) := by rw [← hW2]; exact World.putObj_heap_same hlt
      have hk2 : W2.heap[w.heap.size]? = some (.deferred (some [])) := by rw [← hW2]; exact (World.putObj_heap_other (by omega)).trans hKy
      have near : Near w bB W2 := by
        refine ⟨?_, ?_, ?_, ?_, ?_⟩
        · rw [← hW2]; exact so.trans hb1.os
        · rw [← hW2]; exact st.trans hb1.tape
        · rw [← hW2]; exact sp.trans hb1.output
        · rw [← hW2, World.putObj_size]; omega
        · intro k hk hne
          rw [← hW2]; exact (World.putObj_heap_other (by omega)).trans ((sb k hne).trans (hb1.block k hk))
      refine wpIn_mono (hbody _ W2 near) ?_
      rintro e a3 W3 ⟨rfl, hk3, hr3⟩
      have hl3 : W3.heap[w.heap.size + 1]? = some (.loop { rec .ready none with state := .busy }) := (hk3 _ (by omega) (by omega)).trans hl2
      have hd3 : W3.heap[w.heap.size]? = some (.deferred (some [])) := (hk3 _ (by omega) (by omega)).trans hk2
      have he := run_endRound (P := P) (some .ret) hl3
      refine ⟨_, _, he, rfl, hRb _ _ _ (by omega) hr3, ?_, (World.putObj_heap_other (by omega)).trans hd3⟩
      rw [World.putObj_heap_same (Array.getElem?_eq_some_iff.1 hl3).1, hrec]; rfl
    · rintro e W4 ⟨⟨v, rfl⟩, hr4, hl4, hd4⟩
      have he := run_endLoop (P := P) hl4 (by rw [hrec]; simp)
      rw [show (rec .done (some .ret)).pending = some .ret by rw [hrec]] at he
      exact ⟨some .ret, _, he, hstop _ (hRb _ _ _ (by omega) hr4) ((World.putObj_heap_other (by omega)).trans hd4)⟩
end Go.Proofs.Qxb6603845aDoor
