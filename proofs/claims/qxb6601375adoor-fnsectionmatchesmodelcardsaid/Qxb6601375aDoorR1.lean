import Derived.RangeFuncNested
import Derived.RangeFuncCalls
import Derived.RangeFuncLeaves
namespace Go.Proofs.Qxb6601375aDoor
open Go Go.RowKit

/-- what abides new blocks, draws, and writes into block B alone -/
def AbidesAt (B : Nat) (J : Nat → World → Prop) : Prop := ∀ i W W' row, J i W → W.grownBy W' row → (∀ r, row = some r → r = B) → J i W'

/-- AN ITERATOR OVER THE LIST L THAT KEEPS ITS OWN STATE IN BLOCK B: the caller's J i: i rounds have gone on; Jx i: the i-th has said 'no more'. -/
def SeqBox {α : Type} (F : Fence) (n : Nat) (P : Program) (g : Nat) (lb : Array Value) (encs : α → Array Value) (B : Nat) (L : List α) (w : World) : Prop :=
  ∀ (l : Nat) (J Jx : Nat → World → Prop) (W : World), Below w.heap.size w W → AbidesAt B J →
    (∀ i x W1, J i W1 → L[i]? = some x → YieldAt F (n - 1) P l (encs x) W1 fun e W' =>
      (e = .returned (.bool true) ∧ J (i + 1) W' ∧ W'.heap[B]? = W1.heap[B]?) ∨ (e = .returned (.bool false) ∧ Jx i W')) →
    J 0 W →
    CallsIn F n P g (#[.func (.yield l) #[] #[]] ++ lb) W fun e W' => (∃ v, e = .returned v) ∧ (J L.length W' ∨ ∃ i, i < L.length ∧ Jx i W')

/-- how a round's body may be left: off its end, or by a return -/
def boxPost (B : Nat) (I Ix : Nat → World → Prop) (i : Nat) (W : World) : Exit → Act → World → Prop
  | .normal, _, W' => KeepsOthers W W' ∧ W'.heap[B]? = W.heap[B]? ∧ I (i + 1) W'
  | .ret, _, W' => KeepsOthers W W' ∧ Ix i W'
  | _, _, _ => False

variable {F : Fence} {n : Nat} {P : Program}

theorem rangeFunc_box {α : Type} {g : Operand} {ps : Array Tmp} {assign body : Code} {Q : Exit → Act → World → Prop} {a : Act} {w : World}
    (hro : F.round = none) (h1 : 1 ≤ n) {gf : Nat} {lb : Array Value} (hg : a.eval g = .func (.func gf) #[] lb) (hFg : F.fn gf) (eg : ∀ args w, (callFunc gf args).run P w = .ok (.enter gf args) w)
    {encs : α → Array Value} {B : Nat} {L : List α} (hB : B < w.heap.size) (hseq : SeqBox F (n - 1) P gf lb encs B L w) (hps : ∀ x, (encs x).size = ps.size)
    (I Ix : Nat → World → Prop) (hA : AbidesAt B I) (hI : OwnFrom w.heap.size I) (hIx : OwnFrom w.heap.size Ix) (h0 : I 0 w) (a₁ : α → Act)
    (hassign : ∀ (l : Nat) (x : α) (W : World) (K : Act → World → Prop), K (a₁ x) W →
      assign.wpIn (F.inRound l) (n - 1 - 1) P (Exit.then K (fun _ _ _ => False)) { tmps := (ps.zip (encs x)).foldl (fun t (p, v) => t.setIfInBounds p v) a.tmps, defers := [] } W)
    (hbody : ∀ (l i : Nat) (x : α) (W : World), I i W → L[i]? = some x → body.wpIn (F.inRound l) (n - 1 - 1) P (boxPost B I Ix i W) (a₁ x) W)
    (hdone : ∀ (D : Nat) (W : World), w.heap.size ≤ D → I L.length W → W.heap[D]? = some (.deferred (some [])) → Q .normal { a with defers := { target := .collected D, args := #[] } :: a.defers } W)
    (hstop : ∀ (D i : Nat) (W : World), w.heap.size ≤ D → i < L.length → Ix i W → W.heap[D]? = some (.deferred (some [])) → Code.ret.wpIn F n P Q { a with defers := { target := .collected D, args := #[] } :: a.defers } W) :
    (Code.rangeFunc g ps assign body).wpIn F n P Q a w := by
  refine wpIn_rangeFunc fun fn hfn => ?_
  rw [hro]
  -- the loop's record, ready or busy or done, and the world in which the iterator is called
  obtain ⟨rec, hrec⟩ : ∃ rec : LoopState → Option Code → Loop, rec = fun st pe => { state := st, pending := pe, fn, tmps := a.tmps, params := ps, assign, body, defers := w.heap.size } := ⟨_, rfl⟩
  obtain ⟨W1, hW1⟩ : ∃ W1, (w.alloc (.deferred (some []))).alloc (.loop (rec .ready none)) = W1 := ⟨_, rfl⟩
  have hb1 : Below w.heap.size w W1 := by rw [← hW1]; exact ((Below.refl _ w).alloc (Nat.le_refl _) _).alloc (by simp) _
  have hL1 : W1.heap[w.heap.size + 1]? = some (.loop (rec .ready none)) := by
    have := World.alloc_heap_new (w.alloc (.deferred (some []))) (.loop (rec .ready none))
    rwa [World.size_alloc, hW1] at this
  have hD1 : W1.heap[w.heap.size]? = some (.deferred (some [])) := by
    rw [← hW1]; exact (Below.heap_alloc _ _ _ (by simp)).trans (World.alloc_heap_new w _)
  have hI1 : I 0 W1 := by rw [← hW1]; exact hI.alloc _ (hI.alloc _ h0)
  refine ⟨w.heap.size + 1, [{ target := .collected w.heap.size, args := #[] }], W1, { target := .fn (.func gf) lb, args := #[.func (.yield (w.heap.size + 1)) #[] #[]] }, W1, gf,
    #[.func (.yield (w.heap.size + 1)) #[] #[]] ++ lb, W1, ?_, ?_, ?_, ?_, fun _ => h1, ?_⟩
  · rw [← hW1, hrec]; exact run_enterLoop_outer _ _ _ _ _
  · simp only [resolve, hg]
    simp [go_sem]
  · intro f' hf'; simp [Target.leads] at hf'; subst hf'; exact hFg
  · simp [invoke, go_sem, eg]
  refine (hseq (w.heap.size + 1) (fun i W => I i W ∧ W.heap[w.heap.size + 1]? = some (.loop (rec .ready none)) ∧ W.heap[w.heap.size]? = some (.deferred (some [])))
    (fun i W => Ix i W ∧ W.heap[w.heap.size + 1]? = some (.loop (rec .done (some .ret))) ∧ W.heap[w.heap.size]? = some (.deferred (some []))) W1 hb1 ?abide ?round ⟨hI1, hL1, hD1⟩).mono ?after
  case abide =>
    rintro i W W' row ⟨a1, a2, a3⟩ hgr hr
    have other : ∀ (k : Nat) (o : Obj), W.heap[k]? = some o → k ≠ B → W'.heap[k]? = some o := fun k o hk hne => (hgr.block k (Array.getElem?_eq_some_iff.1 hk).1 (fun e => hne (hr k e.symm))).trans hk
    exact ⟨hA i W W' row a1 hgr hr, other _ _ a2 (by omega), other _ _ a3 (by omega)⟩
  case round =>
    rintro i x W ⟨hi, hl, hd⟩ hx
    have hlt : w.heap.size + 1 < W.heap.size := (Array.getElem?_eq_some_iff.1 hl).1
    have hy := run_yield (P := P) (args := encs x) hl (by rw [hrec]; exact hps x)
    rw [hrec] at hy
    refine ⟨fn, _, assign, body, hy, roundIn_of_wpIn hfn (hassign _ x W _ ⟨_, run_beginRound hl (by rw [hrec]), ?_⟩)⟩
    obtain ⟨Wb, hWb⟩ : ∃ Wb, W.putObj (w.heap.size + 1) (.loop { rec .ready none with state := .busy }) = Wb := ⟨_, rfl⟩
    rw [hWb]
    have hl2 : Wb.heap[w.heap.size + 1]? = some (.loop { rec .ready none with state := .busy }) := by rw [← hWb]; exact World.putObj_heap_same hlt
    have hd2 : Wb.heap[w.heap.size]? = some (.deferred (some [])) := by rw [← hWb]; exact (World.putObj_heap_other (by omega)).trans hd
    have hB2 : Wb.heap[B]? = W.heap[B]? := by rw [← hWb]; exact World.putObj_heap_other (by omega)
    have hi2 : I i Wb := by rw [← hWb]; exact hI.putObj _ hi (by omega) hl rfl
    refine wpIn_mono (hbody _ i x Wb hi2 hx) ?_
    rintro e a3 W3 hp
    have book : KeepsOthers Wb W3 → W3.heap[w.heap.size + 1]? = some (.loop { rec .ready none with state := .busy }) ∧ W3.heap[w.heap.size]? = some (.deferred (some [])) := fun hk => ⟨hk.same _ _ hl2 rfl, hk.same _ _ hd2 rfl⟩
    cases e with
    | normal =>
      obtain ⟨hk, hkB, hi3⟩ := hp
      obtain ⟨hl3, hd3⟩ := book hk
      have hr := run_endRound (P := P) none hl3
      rw [hrec] at hr hl3 ⊢
      exact ⟨_, _, hr, .inl ⟨rfl, ⟨hI.putObj _ hi3 (by omega) hl3 rfl, World.putObj_heap_same (Array.getElem?_eq_some_iff.1 hl3).1, (World.putObj_heap_other (by omega)).trans hd3⟩, (World.putObj_heap_other (by omega)).trans (hkB.trans hB2)⟩⟩
    | ret =>
      obtain ⟨hk, hi3⟩ := hp
      obtain ⟨hl3, hd3⟩ := book hk
      have hr := run_endRound (P := P) (some .ret) hl3
      rw [hrec] at hr hl3 ⊢
      exact ⟨_, _, hr, .inr ⟨rfl, hIx.putObj _ hi3 (by omega) hl3 rfl, World.putObj_heap_same (Array.getElem?_eq_some_iff.1 hl3).1, (World.putObj_heap_other (by omega)).trans hd3⟩⟩
    | exit id => exact hp.elim
    | goto t => exact hp.elim
    | panic ch => exact hp.elim
    | outgrown => exact hp.elim
  case after =>
    rintro e W2 ⟨⟨v, rfl⟩, (⟨hi, hl, hd⟩ | ⟨i, hlt, hi, hl, hd⟩)⟩
    · have he := run_endLoop (P := P) hl (by rw [hrec]; simp)
      rw [hrec] at he
      exact ⟨none, _, he, hdone _ _ (Nat.le_refl _) (hI.putObj _ hi (by omega) hl rfl) ((World.putObj_heap_other (by omega)).trans hd)⟩
    · have he := run_endLoop (P := P) hl (by rw [hrec]; simp)
      rw [hrec] at he
      exact ⟨some .ret, _, he, hstop _ i _ (Nat.le_refl _) hlt (hIx.putObj _ hi (by omega) hl rfl) ((World.putObj_heap_other (by omega)).trans hd)⟩
end Go.Proofs.Qxb6601375aDoor
