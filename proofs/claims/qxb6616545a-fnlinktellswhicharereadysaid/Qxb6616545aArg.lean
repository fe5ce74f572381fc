import Derived.Test.Qxb6616545aCuA
import Derived.Test.Qxb6616545aPlain
/-! THE ARGUMENTS: 'added' and 'causes', as they are read. -/
namespace Go.Proofs.Qxb6616545a.Mem
set_option linter.unusedVariables false
set_option linter.unusedSimpArgs false
open Go.RowKit

structure Args (w : World) (Z : Nat) (aa : Option Addr) (n : Nat) (ac : Option Addr) (m : Nat) (ad : Nat → Bool) (A : Nat → Option Addr) (L C : Nat → Nat) (cs : Nat → Nat → Int) : Prop where
  a : 0 < n → ∃ pb po, aa = some ⟨pb, po, none⟩ ∧ pb < Z ∧ ∀ i, i < n → w.cell? ⟨pb, po + i, none⟩ = some (.bool (ad i))
  c : 0 < m → ∃ pb po, ac = some ⟨pb, po, none⟩ ∧ pb < Z ∧ ∀ i, i < m → w.cell? ⟨pb, po + i, none⟩ = some (.slice (A i) (L i) (C i))
  nil : ∀ i, i < m → A i = none → L i = 0 ∧ C i = 0
  r : ∀ i, i < m → 0 < L i → ∃ pb po, A i = some ⟨pb, po, none⟩ ∧ pb < Z ∧ ∀ j, j < L i → w.cell? ⟨pb, po + j, none⟩ = some (.int .i32 (cs i j))
  ln : n ≤ 9223372036854775807
  lm : m ≤ 9223372036854775807
  lL : ∀ i, i < m → L i ≤ 9223372036854775807
  wf : ∀ i, i < m → ∀ j, j < L i → -2147483648 ≤ cs i j ∧ cs i j ≤ 2147483647

section
variable {w w' : World} {Z : Nat} {aa : Option Addr} {n : Nat} {ac : Option Addr} {m : Nat} {ad : Nat → Bool} {A : Nat → Option Addr} {L C : Nat → Nat} {cs : Nat → Nat → Int}

theorem Args.below (h : Args w Z aa n ac m ad A L C cs) (hb : Below Z w w') : Args w' Z aa n ac m ad A L C cs where
  a := fun h0 => by
    obtain ⟨pb, po, e, hp, hc⟩ := h.a h0
    exact ⟨pb, po, e, hp, fun i hi => (hb.cell (by exact hp)).trans (hc i hi)⟩
  c := fun h0 => by
    obtain ⟨pb, po, e, hp, hc⟩ := h.c h0
    exact ⟨pb, po, e, hp, fun i hi => (hb.cell (by exact hp)).trans (hc i hi)⟩
  nil := h.nil
  r := fun i hi h0 => by
    obtain ⟨pb, po, e, hp, hc⟩ := h.r i hi h0
    exact ⟨pb, po, e, hp, fun j hj => (hb.cell (by exact hp)).trans (hc j hj)⟩
  ln := h.ln
  lm := h.lm
  lL := h.lL
  wf := h.wf

/-- the lengths of the first j rows, together -/
def sumL (L : Nat → Nat) : Nat → Nat
  | 0 => 0
  | j + 1 => sumL L j + L j

theorem sumL_mono (L : Nat → Nat) {i j : Nat} (h : i ≤ j) : sumL L i ≤ sumL L j := by
  induction j with
  | zero => have : i = 0 := by omega
            subst this; exact Nat.le_refl _
  | succ j ih =>
    by_cases e : i = j + 1
    · subst e; exact Nat.le_refl _
    · have := ih (by omega)
      show sumL L i ≤ sumL L j + L j
      omega

theorem le_sumL (L : Nat → Nat) {i j : Nat} (h : i < j) : L i ≤ sumL L j := by
  have h1 := sumL_mono L (i := i + 1) (j := j) (by omega)
  have h2 : sumL L (i + 1) = sumL L i + L i := rfl
  omega

end

/-- what the guard on the bytes says -/
def ZSays (b : Bool) (n m : Nat) (L : Nat → Nat) : Prop := b = true → n + m + sumL L m ≤ 1048576

/-- at the function's end: some bool, and what it says -/
def ZPost (w w' : World) (e : Ending) (n m : Nat) (L : Nat → Nat) : Prop := w' = w ∧ ∃ b, e = .returned (.bool b) ∧ ZSays b n m L

end Go.Proofs.Qxb6616545a.Mem
