import Derived.StillTail
import Derived.BigQuiet
namespace Go.Proofs.Qxb6601693aDoor
open Go

theorem still_of_quiet {P : Program} {ops : Array Oper} {W : World} {Q : Act → Prop} : ∀ (l : List Oper) (a : Act), wpQuiet P ops (fun w' => w' = W) Q l a → wpStill P ops W Q l a
  | [], _, h => h
  | o :: rest, a, h => by
    unfold wpQuiet at h
    unfold wpStill
    split
    · rename_i hw
      rw [if_pos hw] at h
      obtain ⟨v, h1, h2⟩ := h
      have h3 := h1 W rfl
      have h4 := still_of_quiet rest _ h2
      unfold Oper.still
      unfold Oper.quietAt at h3
      generalize (execOp a.eval o).run P W = res at h3
      match res, h3 with
      | .ok (.value u) w', h3 => exact ⟨h3.1, by rw [h3.2]; exact h4⟩
      | .ok .skip w', h3 => exact ⟨h3.1, by rw [← h3.2]; exact h4⟩
      | .ok (.enter f args) w', h3 => exact ⟨h3.1, v, h3.2, h4⟩
    · rename_i hw
      rw [if_neg hw] at h
      exact still_of_quiet rest _ h
/-- a region whose first n operations only read, and whose last ones come last -/
theorem region_quiet_tail {P : Program} {id : Nat} {Q : Exit → Act → World → Prop} {a : Act} {w : World} {l : List Oper} (n : Nat) (hm : P.follows .mixedOrders = true) (hB : Region.lexTailB .any l.toArray n = true)
    (h : wpQuiet P l.toArray (fun w' => w' = w.drew) (fun a' => wpList P l.toArray Q (l.drop n) a' w.drew) (l.take n) a) : (Code.region id l.toArray true).wp P Q a w :=
  wp_region_still_tail n hm hB (still_of_quiet _ _ h)
end Go.Proofs.Qxb6601693aDoor
