/-
  A RANGE OVER A FUNCTION WHOSE ITERATOR WRITES ONE CELL OF ITS OWN (strings.SplitSeq: the text that is left): the caller's word, out of the kit's two laws on a round and on the statement.
-/
import Derived.Test.Qxb6605882aFmtRows
import Derived.RangeFuncNested
import Derived.RangeFuncBound
import Derived.RangeFuncCalls
import Derived.RangeFuncLeaves
import Derived.Shelf.Abstract
import Derived.Shelf.RegionOpen
import Derived.WalkKit
import Derived.OwnWalkIn
import Derived.TacticsInMore
import Derived.LoopNIn
import Derived.LoopIn
namespace Go.Proofs.Qxb6605882aFmt
open Go.RowKit Go.Shelf

/-- all blocks below N but block c lie as they lay -/
structure But (c N : Nat) (A B : World) : Prop where
  os : B.os = A.os
  tape : B.tape = A.tape
  output : B.output = A.output
  size : A.heap.size ≤ B.heap.size
  block : ∀ k, k < N → k ≠ c → B.heap[k]? = A.heap[k]?

theorem But.of_below {c N : Nat} {A B : World} (h : Below N A B) : But c N A B := ⟨h.os, h.tape, h.output, h.size, fun k hk _ => h.block k hk⟩
theorem But.trans {c N : Nat} {A B C : World} (h : But c N A B) (k : But c N B C) : But c N A C :=
  ⟨k.os.trans h.os, k.tape.trans h.tape, k.output.trans h.output, Nat.le_trans h.size k.size, fun i hi hc => (k.block i hi hc).trans (h.block i hi hc)⟩
theorem But.mono {c N N' : Nat} {A B : World} (h : But c N A B) (hn : N' ≤ N) : But c N' A B := ⟨h.os, h.tape, h.output, h.size, fun k hk hc => h.block k (by omega) hc⟩
theorem But.setCell {c N : Nat} (A : World) (v : Value) : But c N A (A.setCell ⟨c, 0, none⟩ v) :=
  ⟨rfl, rfl, rfl, by simp, fun k _ hc => Below.heap_setCell A ⟨c, 0, none⟩ v k hc⟩
theorem But.cell {c N : Nat} {A B : World} (h : But c N A B) {p : Addr} (hp : p.block < N) (hc : p.block ≠ c) : B.cell? p = A.cell? p := World.cell?_of_block (w := A) (h.block p.block hp hc)
theorem But.frozen {c N : Nat} {A B : World} (h : But c N A B) {p : Addr} (hp : p.block < N) (hc : p.block ≠ c) : B.frozen? p = A.frozen? p := World.frozen?_of_block (w := A) (h.block p.block hp hc)

/-- what the round may leave behind: it goes on, or it has left by a 'return' -/
def roundEnd (N : Nat) (I Ix : List ByteArray → World → Prop) (xs : List ByteArray) (W : World) : Exit → Act → World → Prop
  | .normal, _, W' => KeepsOthers W W' ∧ Below N W W' ∧ I xs W'
  | .ret, _, W' => KeepsOthers W W' ∧ Ix xs W'
  | _, _, _ => False

/-- the iterator's word, at whatever loop l, whatever the caller carries -/
def Splits (P : Program) (n gf : Nat) (lb : Array Value) (c : Nat) (S : List ByteArray → Prop) (w : World) : Prop :=
  ∀ (l : Nat) (J Jx : List ByteArray → World → Prop) (W : World), Below w.heap.size w W → c < w.heap.size →
    (∀ pre A B, J pre A → But c A.heap.size A B → J pre B) → (∀ pre A B, Jx pre A → But c A.heap.size A B → Jx pre B) →
    (∀ pre x W1, x.size ≤ 1000 → J pre W1 → YieldAt Fence.wide (n - 1) P l #[.string x] W1 fun e W' =>
      (e = .returned (.bool true) ∧ J (pre ++ [x]) W' ∧ Below w.heap.size W1 W') ∨ (e = .returned (.bool false) ∧ Jx (pre ++ [x]) W')) → J [] W →
    CallsIn Fence.wide n P gf (#[.func (.yield l) #[] #[]] ++ lb) W fun e W' => (∃ v, e = .returned v) ∧ ((∃ xs, S xs ∧ J xs W') ∨ ∃ pre, Jx pre W')

theorem put_but {c N l : Nat} {W : World} (o : Obj) (hl : N ≤ l) : But c N W (W.putObj l o) :=
  ⟨rfl, rfl, rfl, by simp [World.putObj], fun k hk _ => World.putObj_heap_other (by omega)⟩

theorem range_cell {P : Program} {n : Nat} {g : Operand} {p : Tmp} {assign body : Code} {Q : Exit → Act → World → Prop} {a : Act} {w : World}
    {gf : Nat} {lb : Array Value} (hg : a.eval g = .func (.func gf) #[] lb) (eg : ∀ args w, (callFunc gf args).run P w = .ok (.enter gf args) w)
    {c : Nat} {S : List ByteArray → Prop} (hseq : Splits P (n - 1) gf lb c S w) (hc : c < w.heap.size)
    (I Ix : List ByteArray → World → Prop) (hI : ∀ pre A B, I pre A → But c w.heap.size A B → I pre B) (hIx : ∀ pre A B, Ix pre A → But c w.heap.size A B → Ix pre B) (h0 : I [] w) (a₁ : ByteArray → Act)
    (hassign : ∀ (l : Nat) (x : ByteArray) (W : World) (K : Act → World → Prop), K (a₁ x) W →
      assign.wpIn (Fence.wide.inRound l) (n - 1 - 1) P (Exit.then K (fun _ _ _ => False)) { tmps := a.tmps.setIfInBounds p (.string x), defers := [] } W)
    (hbody : ∀ (l : Nat) (pre : List ByteArray) (x : ByteArray) (W : World), x.size ≤ 1000 → I pre W → body.wpIn (Fence.wide.inRound l) (n - 1 - 1) P (roundEnd w.heap.size I Ix (pre ++ [x]) W) (a₁ x) W)
    (hdone : ∀ (D : Nat) (xs : List ByteArray) (W : World), w.heap.size ≤ D → S xs → I xs W → W.heap[D]? = some (.deferred (some [])) → Q .normal { a with defers := { target := .collected D, args := #[] } :: a.defers } W)
    (hstop : ∀ (D : Nat) (pre : List ByteArray) (W : World), w.heap.size ≤ D → Ix pre W → W.heap[D]? = some (.deferred (some [])) → Code.ret.wpIn Fence.wide n P Q { a with defers := { target := .collected D, args := #[] } :: a.defers } W) :
    (Code.rangeFunc g #[p] assign body).wpIn Fence.wide n P Q a w := by
  refine wpIn_rangeFunc ?_
  intro fn hfn
  obtain ⟨rec, hrec⟩ : ∃ rec : LoopState → Option Code → Loop, rec = fun st pe => { state := st, pending := pe, fn, tmps := a.tmps, params := #[p], assign, body, defers := w.heap.size } := ⟨_, rfl⟩
  obtain ⟨W1, hW1⟩ : ∃ W1, (w.alloc (.deferred (some []))).alloc (.loop (rec .ready none)) = W1 := ⟨_, rfl⟩
  have hL1 : W1.heap[w.heap.size + 1]? = some (.loop (rec .ready none)) := by
    rw [← hW1]; have := World.alloc_heap_new (w.alloc (.deferred (some []))) (.loop (rec .ready none)); rwa [World.size_alloc] at this
  have hK1 : W1.heap[w.heap.size]? = some (.deferred (some [])) := by
    rw [← hW1]; exact (Below.heap_alloc _ _ _ (by simp)).trans (World.alloc_heap_new w _)
  have hb1 : Below w.heap.size w W1 := by
    rw [← hW1]; exact ((Below.refl _ w).alloc (Nat.le_refl _) _).alloc (by simp) _
  have hI1 : I [] W1 := hI _ _ _ h0 (.of_below hb1)
  refine ⟨w.heap.size + 1, [{ target := .collected w.heap.size, args := #[] }], W1, { target := .fn (.func gf) lb, args := #[.func (.yield (w.heap.size + 1)) #[] #[]] }, W1, gf,
    #[.func (.yield (w.heap.size + 1)) #[] #[]] ++ lb, W1, ?_, ?_, fun _ _ => trivial, ?_, fun h => by simp [Fence.wide] at h, ?_⟩
  · rw [← hW1, hrec]; exact run_enterLoop_outer _ _ _ _ _
  · simp only [resolve, hg]
    simp [go_sem]
  · simp [invoke, go_sem, eg]
  · refine (hseq (w.heap.size + 1)
      (fun pre W => I pre W ∧ W.heap[w.heap.size + 1]? = some (.loop (rec .ready none)) ∧ W.heap[w.heap.size]? = some (.deferred (some [])))
      (fun pre W => Ix pre W ∧ W.heap[w.heap.size + 1]? = some (.loop (rec .done (some .ret))) ∧ W.heap[w.heap.size]? = some (.deferred (some [])))
      W1 hb1 hc ?_ ?_ ?_ ⟨hI1, hL1, hK1⟩).mono ?_
    · rintro pre A B ⟨hi, hl, hk⟩ hb
      have l1 := (Array.getElem?_eq_some_iff.1 hl).1
      exact ⟨hI _ _ _ hi (hb.mono (by omega)), (hb.block _ l1 (by omega)).trans hl, (hb.block _ (by omega) (by omega)).trans hk⟩
    · rintro pre A B ⟨hi, hl, hk⟩ hb
      have l1 := (Array.getElem?_eq_some_iff.1 hl).1
      exact ⟨hIx _ _ _ hi (hb.mono (by omega)), (hb.block _ l1 (by omega)).trans hl, (hb.block _ (by omega) (by omega)).trans hk⟩
    · rintro pre x W hxs ⟨hi, hl, hk⟩
      have hlt : w.heap.size + 1 < W.heap.size := (Array.getElem?_eq_some_iff.1 hl).1
      have hy := run_yield (P := P) (args := #[.string x]) hl (by rw [hrec]; rfl)
      rw [hrec] at hy
      rw [show ((#[p].zip #[Value.string x]).foldl (fun t (p, v) => t.setIfInBounds p v) a.tmps) = a.tmps.setIfInBounds p (.string x) by simp] at hy
      refine ⟨fn, _, assign, body, hy, roundIn_of_wpIn hfn (hassign _ x W _ ⟨_, run_beginRound hl (by rw [hrec]), ?_⟩)⟩
      have hl2 : (W.putObj (w.heap.size + 1) (.loop { rec .ready none with state := .busy })).heap[w.heap.size + 1]? = some (.loop { rec .ready none with state := .busy }) := World.putObj_heap_same hlt
      have hk2 : (W.putObj (w.heap.size + 1) (.loop { rec .ready none with state := .busy })).heap[w.heap.size]? = some (.deferred (some [])) := (World.putObj_heap_other (by omega)).trans hk
      have hw2 : Below w.heap.size W (W.putObj (w.heap.size + 1) (.loop { rec .ready none with state := .busy })) := ⟨rfl, rfl, rfl, by simp [World.putObj], fun k hk => World.putObj_heap_other (by omega)⟩
      refine wpIn_mono (hbody _ pre x _ hxs (hI _ _ _ hi (.of_below hw2))) ?_
      rintro e a3 W3 hp
      cases e with
      | normal =>
        obtain ⟨hk3, hkp3, hi3⟩ := hp
        have hl3 := hk3.same _ _ hl2 rfl
        have hlt3 := (Array.getElem?_eq_some_iff.1 hl3).1
        have hr := run_endRound (P := P) none hl3
        have hw3 : Below w.heap.size W3 (W3.putObj (w.heap.size + 1) (.loop (rec .ready none))) := ⟨rfl, rfl, rfl, by simp [World.putObj], fun k hk => World.putObj_heap_other (by omega)⟩
        refine ⟨_, _, hr, .inl ⟨rfl, ⟨?_, ?_, ?_⟩, ?_⟩⟩
        · rw [hrec] at hw3 ⊢
          exact hI _ _ _ hi3 (.of_below hw3)
        · rw [hrec]; exact World.putObj_heap_same hlt3
        · exact (World.putObj_heap_other (by omega)).trans (hk3.same _ _ hk2 rfl)
        · rw [hrec] at hw3 ⊢
          rw [hrec] at hw2 hkp3
          exact (hw2.trans hkp3).trans hw3
      | ret =>
        obtain ⟨hk3, hi3⟩ := hp
        have hl3 := hk3.same _ _ hl2 rfl
        have hlt3 := (Array.getElem?_eq_some_iff.1 hl3).1
        have hr := run_endRound (P := P) (some .ret) hl3
        have hw3 : Below w.heap.size W3 (W3.putObj (w.heap.size + 1) (.loop (rec .done (some .ret)))) := ⟨rfl, rfl, rfl, by simp [World.putObj], fun k hk => World.putObj_heap_other (by omega)⟩
        refine ⟨_, _, hr, .inr ⟨rfl, ?_, ?_, ?_⟩⟩
        · rw [hrec] at hw3 ⊢
          exact hIx _ _ _ hi3 (.of_below hw3)
        · rw [hrec]; exact World.putObj_heap_same hlt3
        · exact (World.putObj_heap_other (by omega)).trans (hk3.same _ _ hk2 rfl)
      | exit id => exact hp.elim
      | goto t => exact hp.elim
      | panic ch => exact hp.elim
      | outgrown => exact hp.elim
    · rintro e W2 ⟨⟨v, rfl⟩, (⟨xs, hS, hi, hl, hk⟩ | ⟨pre, hi, hl, hk⟩)⟩
      · have hr := run_endLoop (P := P) hl (by rw [hrec]; simp)
        rw [hrec] at hr
        refine ⟨none, _, hr, hdone _ xs _ (Nat.le_refl _) hS (hI _ _ _ hi (put_but _ (by omega))) ((World.putObj_heap_other (by omega)).trans hk)⟩
      · have hr := run_endLoop (P := P) hl (by rw [hrec]; simp)
        rw [hrec] at hr
        refine ⟨some .ret, _, hr, hstop _ pre _ (Nat.le_refl _) (hIx _ _ _ hi (put_but _ (by omega))) ((World.putObj_heap_other (by omega)).trans hk)⟩
end Go.Proofs.Qxb6605882aFmt
