/- A range over a function whose body turns one block that was there, never leaves the loop, and reads what the function yields. -/
import Derived.Test.YtfcdldcekdbckacDoorChainIn
import Derived.Test.YtfcdldcekdbckacDoorBlk
import Derived.RangeFuncIn
import Derived.RangeFuncLeaves
import Derived.RangeFuncOwn
namespace Go.Proofs.YtfcdldcekdbckacDoor
open Go Go.RowKit

theorem keeps_putObj (w : World) (l Y : Nat) (hl : Y < l) (o : Obj) : Below Y w (w.putObj l o) :=
  ⟨rfl, rfl, rfl, by simp, fun k hk => World.putObj_heap_other (by omega)⟩
theorem below_putObj {M l : Nat} (w : World) (hl : M ≤ l) (o : Obj) : Below M w (w.putObj l o) :=
  ⟨rfl, rfl, rfl, by simp, fun k hk => World.putObj_heap_other (by omega)⟩

variable {P : Program} {n : Nat}
theorem rf_law {g : Operand} {ps : Array Tmp} {assign body : Code} {Q : Exit → Act → World → Prop} {a : Act} {w : World}
    {gf : Nat} {lb : Array Value} (hg : a.eval g = .func (.func gf) #[] lb) (eg : ∀ args w, (callFunc gf args).run P w = .ok (.enter gf args) w) (hps : ps.size = 1)
    (I : Nat → World → Prop) (Fits : Nat → Value → World → Prop) (N Y : Nat) (hY : Y < w.heap.size)
    (hI : ∀ k W W', I k W → Below w.heap.size W W' → I k W')
    (hFit : ∀ k v W l o o', W.heap[l]? = some o → o.isCells = false → Fits k v W → Fits k v (W.putObj l o'))
    (h0 : I 0 w) (a₁ : Value → Act)
    (hassign : ∀ (l : Nat) (v : Value) (W : World) (K : Act → World → Prop), K (a₁ v) W →
      assign.wpIn (Fence.wide.inRound l) (n - 1 - 1) P (Exit.then K (fun _ _ _ => False)) { tmps := (ps.zip #[v]).foldl (fun t (p, v) => t.setIfInBounds p v) a.tmps, defers := [] } W)
    (hbody : ∀ (l k : Nat) (v : Value) (W : World), I k W → k < N → Fits k v W → w.heap.size < W.heap.size →
      body.wpIn (Fence.wide.inRound l) (n - 1 - 1) P (fun e _ W' => e = .normal ∧ I (k + 1) W' ∧ Keeps Y W W') (a₁ v) W)
    (hiter : ∀ (l : Nat) (J : Nat → World → Prop) (W1 : World), Below w.heap.size w W1 → W1.heap.size = w.heap.size + 2 → (∀ k W W', J k W → Below W1.heap.size W W' → J k W') →
      (∀ k v W, J k W → k < N → Fits k v W → YieldAt Fence.wide (n - 1 - 1) P l #[v] W (fun e W' => e = .returned (.bool true) ∧ J (k + 1) W' ∧ Keeps Y W W')) →
      J 0 W1 → CallsIn Fence.wide (n - 1) P gf (#[.func (.yield l) #[] #[]] ++ lb) W1 (fun e W' => (∃ v, e = .returned v) ∧ J N W'))
    (hdone : ∀ W, I N W → W.heap[w.heap.size]? = some (.deferred (some [])) → Q .normal { a with defers := { target := .collected w.heap.size, args := #[] } :: a.defers } W) :
    (Code.rangeFunc g ps assign body).wpIn Fence.wide n P Q a w := by
  refine wpIn_rangeFunc ?_
  intro fn hfn
  have hro : Fence.wide.round = none := rfl
  rw [hro]
  obtain ⟨rec, hrec⟩ : ∃ rec : LoopState → Option Code → Loop, rec = fun st pe => { state := st, pending := pe, fn, tmps := a.tmps, params := ps, assign, body, defers := w.heap.size } := ⟨_, rfl⟩
  obtain ⟨W1, hW1⟩ : ∃ W1, (w.alloc (.deferred (some []))).alloc (.loop (rec .ready none)) = W1 := ⟨_, rfl⟩
  have hsz1 : W1.heap.size = w.heap.size + 2 := by rw [← hW1]; simp
  have hL1 : W1.heap[w.heap.size + 1]? = some (.loop (rec .ready none)) := by
    rw [← hW1]; have := World.alloc_heap_new (w.alloc (.deferred (some []))) (.loop (rec .ready none)); rwa [World.size_alloc] at this
  have hK1 : W1.heap[w.heap.size]? = some (.deferred (some [])) := by
    rw [← hW1]; exact (Below.heap_alloc _ _ _ (by simp)).trans (World.alloc_heap_new w _)
  have hb1 : Below w.heap.size w W1 := by
    rw [← hW1]; exact ((Below.refl _ w).alloc (Nat.le_refl _) _).alloc (by simp) _
  have hI1 : I 0 W1 := hI _ _ _ h0 hb1
  refine ⟨w.heap.size + 1, [{ target := .collected w.heap.size, args := #[] }], W1, { target := .fn (.func gf) lb, args := #[.func (.yield (w.heap.size + 1)) #[] #[]] }, W1, gf,
    #[.func (.yield (w.heap.size + 1)) #[] #[]] ++ lb, W1, ?_, ?_, ?_, ?_, fun h => by simp [Fence.wide] at h, ?_⟩
  · rw [← hW1, hrec]; exact run_enterLoop_outer _ _ _ _ _
  · simp only [resolve, hg]
    simp [go_sem]
  · intro f' _; trivial
  · simp [invoke, go_sem, eg]
  · refine (hiter (w.heap.size + 1)
      (fun k W => I k W ∧ W.heap[w.heap.size + 1]? = some (.loop (rec .ready none)) ∧ W.heap[w.heap.size]? = some (.deferred (some [])))
      W1 hb1 hsz1 (fun k W W' hJ hb => ⟨hI k W W' hJ.1 (hb.mono (by omega)), (hb.block _ (by omega)).trans hJ.2.1, (hb.block _ (by omega)).trans hJ.2.2⟩) ?_ ⟨hI1, hL1, hK1⟩).mono ?_
    · -- one round
      rintro k v W ⟨hi, hl, hk⟩ hlt hfit
      have hlt2 : w.heap.size + 1 < W.heap.size := (Array.getElem?_eq_some_iff.1 hl).1
      have hy := run_yield (P := P) (args := #[v]) hl (by rw [hrec]; simp [hps])
      rw [hrec] at hy
      refine ⟨fn, _, assign, body, hy, roundIn_of_wpIn hfn (hassign _ v W _ ⟨_, run_beginRound hl (by rw [hrec]), ?_⟩)⟩
      have hl2 : (W.putObj (w.heap.size + 1) (.loop { rec .ready none with state := .busy })).heap[w.heap.size + 1]? = some (.loop { rec .ready none with state := .busy }) := World.putObj_heap_same hlt2
      have hk2 : (W.putObj (w.heap.size + 1) (.loop { rec .ready none with state := .busy })).heap[w.heap.size]? = some (.deferred (some [])) := (World.putObj_heap_other (by omega)).trans hk
      refine wpIn_mono (hbody _ k v _ (hI _ _ _ hi (below_putObj W (by omega) _)) hlt (hFit k v W _ _ _ hl rfl hfit) (by simp; omega)) ?_
      rintro e a3 W3 ⟨rfl, hi3, hk3⟩
      have hl3 : W3.heap[w.heap.size + 1]? = some (.loop { rec .ready none with state := .busy }) := (hk3.other _ (by simp; omega) (by omega)).trans hl2
      have hd3 : W3.heap[w.heap.size]? = some (.deferred (some [])) := (hk3.other _ (by simp; omega) (by omega)).trans hk2
      have hlt3 : w.heap.size + 1 < W3.heap.size := (Array.getElem?_eq_some_iff.1 hl3).1
      have hend := run_endRound (P := P) none hl3
      refine ⟨_, _, hend, rfl, ⟨hI _ _ _ hi3 (below_putObj W3 (by omega) _), ?_, (World.putObj_heap_other (by omega)).trans hd3⟩, ?_⟩
      · rw [World.putObj_heap_same hlt3, hrec]; rfl
      · have hsz3 : W.heap.size ≤ W3.heap.size := by have := hk3.size; simpa using this
        refine ⟨⟨hk3.bel.os, hk3.bel.tape, hk3.bel.output, by simpa using hsz3, fun j hj => ?_⟩, by simpa using hsz3, fun j hj hne => ?_⟩
        · rw [World.putObj_heap_other (by omega), hk3.bel.block j hj, World.putObj_heap_other (by omega)]
        · show (W3.putObj _ _).heap[j]? = W.heap[j]?
          by_cases e : j = w.heap.size + 1
          · subst e; rw [World.putObj_heap_same hlt3, hl, hrec]; rfl
          · rw [World.putObj_heap_other e]
            exact (hk3.other j (by simpa using hj) hne).trans (World.putObj_heap_other e)
    · rintro e W2 ⟨⟨v, rfl⟩, hi, hl, hk⟩
      refine ⟨none, _, by have := run_endLoop (P := P) hl (by rw [hrec]; simp); rw [hrec] at this; exact this, hdone _ (hI _ _ _ hi (below_putObj W2 (by omega) _)) ((World.putObj_heap_other (by omega)).trans hk)⟩
end Go.Proofs.YtfcdldcekdbckacDoor
