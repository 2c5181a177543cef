import Derived.Test.Qxb6601693aDoorG3
namespace Go.Proofs.Qxb6601693aDoor
open Go.RowKit

structure ResD where
  ty : ByteArray
  cl : ByteArray
  na : ByteArray
  acts : List ByteArray
structure RuleD where
  ac : ByteArray
  ty : ByteArray
  lits : List ByteArray
  us : Bool
  acts : List ByteArray
def ResD.none : ResD := ⟨ByteArray.empty, ByteArray.empty, ByteArray.empty, []⟩
def RuleD.none : RuleD := ⟨ByteArray.empty, ByteArray.empty, [], false, []⟩

/-- a resource lies in the four cells from ⟨b, f⟩ on -/
def ResAt (w : World) (b f : Nat) (r : ResD) : Prop :=
  w.cell? ⟨b, f, none⟩ = some (.string r.ty) ∧ w.cell? ⟨b, f + 1, none⟩ = some (.string r.cl) ∧ w.cell? ⟨b, f + 2, none⟩ = some (.string r.na) ∧ ∃ v, w.cell? ⟨b, f + 3, none⟩ = some v ∧ StrAt w v r.acts
/-- a rule lies in the five cells from ⟨b, f⟩ on -/
def RuleAt (w : World) (b f : Nat) (r : RuleD) : Prop :=
  w.cell? ⟨b, f, none⟩ = some (.string r.ac) ∧ w.cell? ⟨b, f + 1, none⟩ = some (.string r.ty) ∧ (∃ v, w.cell? ⟨b, f + 2, none⟩ = some v ∧ StrAt w v r.lits) ∧ w.cell? ⟨b, f + 3, none⟩ = some (.bool r.us) ∧ ∃ v, w.cell? ⟨b, f + 4, none⟩ = some v ∧ StrAt w v r.acts
def ResSl (w : World) (v : Value) (rs : List ResD) : Prop :=
  ∃ o c, v = .slice o rs.length c ∧ rs.length ≤ c ∧ (0 < rs.length → ∃ b f, o = some ⟨b, f, none⟩ ∧ ∀ i, i < rs.length → ResAt w b (f + i * 4) (rs.getD i ResD.none))
def RuleSl (w : World) (v : Value) (rs : List RuleD) : Prop :=
  ∃ o c, v = .slice o rs.length c ∧ rs.length ≤ c ∧ (0 < rs.length → ∃ b f, o = some ⟨b, f, none⟩ ∧ ∀ i, i < rs.length → RuleAt w b (f + i * 5) (rs.getD i RuleD.none))

def StrsOk (ss : List ByteArray) : Prop := ss.length ≤ 1048576 ∧ ∀ i, i < ss.length → (ss.getD i ByteArray.empty).size ≤ 1048576
def ResOk (r : ResD) : Prop := r.ty.size ≤ 1048576 ∧ r.cl.size ≤ 1048576 ∧ r.na.size ≤ 1048576 ∧ StrsOk r.acts
def RuleOk (r : RuleD) : Prop := r.ac.size ≤ 1048576 ∧ r.ty.size ≤ 1048576 ∧ StrsOk r.lits ∧ StrsOk r.acts
def AllOk (rules : List RuleD) (acct : ByteArray) (asked : List ResD) : Prop :=
  rules.length ≤ 1048576 ∧ (∀ i, i < rules.length → RuleOk (rules.getD i RuleD.none)) ∧ acct.size ≤ 1048576 ∧ asked.length ≤ 1048576 ∧ ∀ i, i < asked.length → ResOk (asked.getD i ResD.none)

/-- no string and no slice is too long for a Go program -/
def StrsFit (ss : List ByteArray) : Prop := ss.length ≤ maxLen ∧ ∀ i, i < ss.length → (ss.getD i ByteArray.empty).size ≤ maxLen
def ResFit (r : ResD) : Prop := r.ty.size ≤ maxLen ∧ r.cl.size ≤ maxLen ∧ r.na.size ≤ maxLen ∧ StrsFit r.acts
def RuleFit (r : RuleD) : Prop := r.ac.size ≤ maxLen ∧ r.ty.size ≤ maxLen ∧ StrsFit r.lits ∧ StrsFit r.acts

/-- what a slice of strings gives to a round -/
theorem StrAt.open {w : World} {v : Value} {ss : List ByteArray} (h : StrAt w v ss) : ∃ o c, v = .slice o ss.length c ∧ Hid (∀ i, i < ss.length → ∃ b f, o = some ⟨b, f, none⟩ ∧ w.cell? ⟨b, f + i, none⟩ = some (.string (ss.getD i ByteArray.empty))) := by
  obtain ⟨o, c, rfl, _, h⟩ := h
  exact ⟨o, c, rfl, fun i hi => by
    obtain ⟨b, f, e, hc⟩ := h (by omega)
    exact ⟨b, f, e, hc i hi⟩⟩
end Go.Proofs.Qxb6601693aDoor
