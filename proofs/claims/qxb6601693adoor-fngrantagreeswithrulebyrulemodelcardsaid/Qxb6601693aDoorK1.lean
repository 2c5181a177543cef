import Derived.Test.Qxb6601693aDoorProg
import Derived.Maps.OwnSet
import Derived.DeepKeys4
import Derived.KernelRfl
namespace Go.Proofs.Qxb6601693aDoor
open Go.RowKit Go.Maps Go.WideMaps

theorem Tryd.laidOutK : laidOutB Tryd.prog = true := by kernel_rfl
theorem Tryd.row92 : (92 : TypeId) < Tryd.prog.types.size := of_decide_eq_true (by kernel_rfl)
theorem Tryd.wide92 : (match Tryd.prog.underlying 92 with | some (.array _ _) | some (.struct _) => true | _ => false) = true := by kernel_rfl
theorem Tryd.keyAt92 : Tryd.prog.keyTypeAt 2 92 = true := by kernel_rfl
set_option maxRecDepth 100000 in
theorem Tryd.law92 : KeyLaw Tryd.prog 92 := deep_law_laid Tryd.laidOutK (m := 2) (by decide) Tryd.row92 Tryd.keyAt92 Tryd.wide92
theorem Tryd.keyed92 : Keyed Tryd.prog 92 := Keyed.of_law Tryd.law92
theorem Tryd.zero3 (w : World) : (zeroValue 3).run Tryd.prog w = .ok (.int .i64 0) w := by kernel_rfl
theorem Tryd.keyType92 : Tryd.prog.keyType 92 = true := by kernel_rfl
theorem Tryd.cellsOf92 : Tryd.prog.cellsOf 92 = 3 := by kernel_rfl
theorem Tryd.cellsOf9 : Tryd.prog.cellsOf 9 = 1 := by kernel_rfl
/-- what a resource's key reads as -/
theorem keyOf92 (a b c : ByteArray) (ha : a.size ≤ maxLen) (hb : b.size ≤ maxLen) (hc : c.size ≤ maxLen) : ∃ l, keyOf Tryd.prog 92 (.agg #[.string a, .string b, .string c]) = some l := by
  have hu := Tryd.underlying92
  have h9 := Tryd.underlying9
  have hf : (Value.agg #[.string a, .string b, .string c]).formed Tryd.prog 92 = true := by
    simp [Value.formed, hu, Tryd.cellsOf92]
  unfold keyOf
  rw [hu]
  simp only [Tryd.keyType92, hf, Bool.and_self, if_true]
  obtain ⟨n, hn⟩ : ∃ n, Tryd.prog.types.size = n + 1 := Nat.exists_eq_succ_of_ne_zero (fun h => by have h2 : (92 : Nat) < Tryd.prog.types.size := Tryd.row92; rw [h] at h2; exact absurd h2 (Nat.not_lt_zero _))
  rw [hn]
  simp [Program.keyLits, hu, h9, Tryd.cellsOf92, Tryd.cellsOf9, Value.cells, ha, hb, hc]
/-- two keys that read alike are alike -/
theorem key92_inj {a b c a' b' c' : ByteArray} {l : Lit} (h : keyOf Tryd.prog 92 (.agg #[.string a, .string b, .string c]) = some l) (h' : keyOf Tryd.prog 92 (.agg #[.string a', .string b', .string c']) = some l) : a = a' ∧ b = b' ∧ c = c' := by
  have := Tryd.law92.inj h h'
  simpa using this
end Go.Proofs.Qxb6601693aDoor
