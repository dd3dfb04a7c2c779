import Derived.Test.YbulkajukPrefix
import Derived.RangeFuncNested
namespace Go.Proofs.Ybulkajuk.A
open Go.RowKit

/-- A range over a function that itself writes variables: the caller's invariant I speaks of them; I₁ is what holds when the round is entered. No way out of the loop but its end. -/
theorem rangeFunc_wr {F : Fence} {n : Nat} {P : Program} {α : Type} {g : Operand} {ps : Array Tmp} {assign body : Code} {Q : Exit → Act → World → Prop} {a : Act} {w : World}
    (hro : F.round = none) (h1 : 1 ≤ n) {gf : Nat} {lb : Array Value} (hg : a.eval g = .func (.func gf) #[] lb) (hFg : F.fn gf) (eg : ∀ args w, (callFunc gf args).run P w = .ok (.enter gf args) w)
    {encs : α → Array Value} (hps : ∀ x, (encs x).size = ps.size) (I I₁ : List α → World → Prop) (hI : OwnFrom w.heap.size I) (hI₁ : OwnFrom w.heap.size I₁) (h0 : I [] w) (a₁ : α → Act) (xs : List α)
    (hseq : ∀ (r : Loop) (W : World), I [] W → W.heap[w.heap.size + 1]? = some (.loop r) → W.heap[w.heap.size]? = some (.deferred (some [])) →
      (∀ pre x W1, I₁ pre W1 → W1.heap[w.heap.size + 1]? = some (.loop r) → W1.heap[w.heap.size]? = some (.deferred (some [])) →
        YieldAt F (n - 1 - 1) P (w.heap.size + 1) (encs x) W1 fun e W' => e = .returned (.bool true) ∧ I (pre ++ [x]) W' ∧ W'.heap[w.heap.size + 1]? = some (.loop r) ∧ W'.heap[w.heap.size]? = some (.deferred (some []))) →
      CallsIn F (n - 1) P gf (#[.func (.yield (w.heap.size + 1)) #[] #[]] ++ lb) W fun e W' => (∃ v, e = .returned v) ∧ I xs W' ∧ W'.heap[w.heap.size + 1]? = some (.loop r) ∧ W'.heap[w.heap.size]? = some (.deferred (some [])))
    (hassign : ∀ (l : Nat) (x : α) (W : World) (K : Act → World → Prop), K (a₁ x) W →
      assign.wpIn (F.inRound l) (n - 1 - 1) P (Exit.then K (fun _ _ _ => False)) { tmps := (ps.zip (encs x)).foldl (fun t (p, v) => t.setIfInBounds p v) a.tmps, defers := [] } W)
    (hbody : ∀ (l : Nat) (pre : List α) (x : α) (W : World), I₁ pre W → body.wpIn (F.inRound l) (n - 1 - 1) P (fun e _ W' => e = .normal ∧ KeepsFrom w.heap.size W W' ∧ I (pre ++ [x]) W') (a₁ x) W)
    (hdone : ∀ (D : Nat) (W : World), w.heap.size ≤ D → I xs W → W.heap[D]? = some (.deferred (some [])) → Q .normal { a with defers := { target := .collected D, args := #[] } :: a.defers } W) :
    (Code.rangeFunc g ps assign body).wpIn F n P Q a w := by
  refine wpIn_rangeFunc fun fn hfn => ?_
  rw [hro]
  obtain ⟨rec, hrec⟩ : ∃ rec : LoopState → Option Code → Loop, rec = fun st pe => { state := st, pending := pe, fn, tmps := a.tmps, params := ps, assign, body, defers := w.heap.size } := ⟨_, rfl⟩
  obtain ⟨W1, hW1⟩ : ∃ W1, (w.alloc (.deferred (some []))).alloc (.loop (rec .ready none)) = W1 := ⟨_, rfl⟩
  have hL1 : W1.heap[w.heap.size + 1]? = some (.loop (rec .ready none)) := by
    rw [← hW1]
    simpa using World.alloc_heap_new (w.alloc (.deferred (some []))) (.loop (rec .ready none))
  have hK1 : W1.heap[w.heap.size]? = some (.deferred (some [])) := by
    rw [← hW1]
    exact (Below.heap_alloc _ _ _ (by simp)).trans (World.alloc_heap_new w _)
  have hI1 : I [] W1 := by rw [← hW1]; exact hI.alloc _ (hI.alloc _ h0)
  refine ⟨w.heap.size + 1, [{ target := .collected w.heap.size, args := #[] }], W1, { target := .fn (.func gf) lb, args := #[.func (.yield (w.heap.size + 1)) #[] #[]] }, W1, gf,
    #[.func (.yield (w.heap.size + 1)) #[] #[]] ++ lb, W1, ?_, ?_, ?_, ?_, fun _ => h1, ?_⟩
  · rw [← hW1, hrec]
    exact run_enterLoop_outer _ _ _ _ _
  · simp only [resolve, hg]
    simp [go_sem]
  · intro f' hf'
    simp [Target.leads] at hf'
    subst hf'
    exact hFg
  · simp [invoke, go_sem, eg]
  · refine (hseq (rec .ready none) W1 hI1 hL1 hK1 ?_).mono ?_
    · intro pre x W hi hl hk
      have hlt : w.heap.size + 1 < W.heap.size := (Array.getElem?_eq_some_iff.1 hl).1
      have hy := run_yield (P := P) (args := encs x) hl (by rw [hrec]; exact hps x)
      rw [hrec] at hy
      refine ⟨fn, _, assign, body, hy, roundIn_of_wpIn hfn (hassign _ x W _ ?_)⟩
      refine ⟨_, run_beginRound hl (by rw [hrec]), ?_⟩
      have hl2 : (W.putObj (w.heap.size + 1) (.loop { rec .ready none with state := .busy })).heap[w.heap.size + 1]? = some (.loop { rec .ready none with state := .busy }) := World.putObj_heap_same hlt
      have hk2 : (W.putObj (w.heap.size + 1) (.loop { rec .ready none with state := .busy })).heap[w.heap.size]? = some (.deferred (some [])) := (World.putObj_heap_other (by omega)).trans hk
      refine wpIn_mono (hbody _ pre x _ (hI₁.putObj _ hi (by omega) hl rfl)) ?_
      rintro e a3 W3 ⟨rfl, hk3, hi3⟩
      have hl3 := hk3.same _ _ (by omega) hl2 rfl
      have hr := run_endRound (P := P) none hl3
      rw [hrec] at hr hl3
      refine ⟨_, _, hr, rfl, ?_, ?_, ?_⟩
      · exact hI.putObj _ hi3 (by omega) hl3 rfl
      · rw [hrec]
        exact World.putObj_heap_same (Array.getElem?_eq_some_iff.1 hl3).1
      · exact (World.putObj_heap_other (by omega)).trans (hk3.same _ _ (Nat.le_refl _) hk2 rfl)
    · rintro e W2 ⟨⟨v, rfl⟩, hi, hl, hk⟩
      have he := run_endLoop (P := P) hl (by rw [hrec]; simp)
      rw [hrec] at he
      exact ⟨none, _, he, hdone _ _ (Nat.le_refl _) (hI.putObj _ hi (by omega) hl rfl) ((World.putObj_heap_other (by omega)).trans hk)⟩
end Go.Proofs.Ybulkajuk.A
