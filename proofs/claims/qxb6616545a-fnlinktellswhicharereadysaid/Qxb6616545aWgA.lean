import Derived.Test.Qxb6616545aWfA
/-! graphWellFormed says more: where there is a node, one was added -/
namespace Go.Proofs.Qxb6616545a.Mem
set_option linter.unusedVariables false
set_option linter.unusedSimpArgs false
open Go.RowKit

/-- whatever is cited, is cited by a node that was added -/
def SomeAd (m : Nat) (ad f : Nat → Bool) : Prop := ∀ c, c < m → f c = true → ∃ i, i < m ∧ ad i = true
/-- the first t nodes are each added or cited -/
def Cov (ad f : Nat → Bool) (t : Nat) : Prop := ∀ i, i < t → ad i = true ∨ f i = true

theorem SomeAd.set {m : Nat} {ad f : Nat → Bool} (h : SomeAd m ad f) {q : Nat} (hq : q < m) (ha : ad q = true) (c : Nat) {g : Nat → Bool} : SomeAd m ad g := fun _ _ _ => ⟨q, hq, ha⟩

theorem Cov.succ {ad f : Nat → Bool} {t : Nat} (h : Cov ad f t) (ht : ad t = true ∨ f t = true) : Cov ad f (t + 1) := by
  intro i hi
  by_cases e : i = t
  · subst e; exact ht
  · exact h i (by omega)

theorem Cov.some {ad f : Nat → Bool} {t m : Nat} (h : Cov ad f t) (hs : SomeAd m ad f) (ht : m ≤ t) : m = 0 ∨ ∃ i, i < m ∧ ad i = true := by
  by_cases e : m = 0
  · exact .inl e
  · rcases h 0 (by omega) with h | h
    · exact .inr ⟨0, by omega, h⟩
    · exact .inr (hs 0 (by omega) h)

def WPost2 (w w' : World) (e : Ending) (n m : Nat) (ad : Nat → Bool) (L : Nat → Nat) (cs : Nat → Nat → Int) : Prop := Below w.heap.size w w' ∧ ∃ b, e = .returned (.bool b) ∧ (b = true → WF n m ad L cs ∧ (m = 0 ∨ ∃ i, i < m ∧ ad i = true))

theorem wpost2_no {w w' : World} {n m : Nat} {ad : Nat → Bool} {L : Nat → Nat} {cs : Nat → Nat → Int} (h : Below w.heap.size w w') : WPost2 w w' (.returned (.bool false)) n m ad L cs := ⟨h, false, rfl, fun h => by cases h⟩
theorem wpost2_any {w w' : World} {n : Nat} {ad : Nat → Bool} {L : Nat → Nat} {cs : Nat → Nat → Int} (h : Below w.heap.size w w') (hw : ∀ i, i < n → ad i = true → RowOK n cs i (L i)) (hx : n = 0 ∨ ∃ i, i < n ∧ ad i = true) (b : Bool) : WPost2 w w' (.returned (.bool b)) n n ad L cs := ⟨h, b, rfl, fun _ => ⟨⟨rfl, hw⟩, hx⟩⟩

end Go.Proofs.Qxb6616545a.Mem
