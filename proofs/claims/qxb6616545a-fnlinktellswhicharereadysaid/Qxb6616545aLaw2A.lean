import Derived.Test.Qxb6616545aAcR
import Derived.Test.Qxb6616545aRd
import Derived.Test.Qxb6616545aBt
/-! FnLinkTellsWhichAreReady: what the walk wants -/
namespace Go.Proofs.Qxb6616545a.Mem
set_option linter.unusedVariables false
set_option linter.unusedSimpArgs false
open Go.RowKit
open Go.Proofs.Qxb6616545a.Plain

theorem Args.up2 {w w' : World} {Z Z' : Nat} {aa : Option Addr} {n : Nat} {ac : Option Addr} {m : Nat} {ad : Nat → Bool} {A : Nat → Option Addr} {L C : Nat → Nat} {cs : Nat → Nat → Int} (h : Args w Z aa n ac m ad A L C cs) (hb : Below Z w w') (hz : Z ≤ Z') :
    Args w' Z' aa n ac m ad A L C cs := by
  have h1 := h.below hb
  refine ⟨fun h0 => ?_, fun h0 => ?_, h1.nil, fun i hi h0 => ?_, h1.ln, h1.lm, h1.lL, h1.wf⟩
  · obtain ⟨pb, po, e, hp, hc⟩ := h1.a h0
    exact ⟨pb, po, e, by omega, hc⟩
  · obtain ⟨pb, po, e, hp, hc⟩ := h1.c h0
    exact ⟨pb, po, e, by omega, hc⟩
  · obtain ⟨pb, po, e, hp, hc⟩ := h1.r i hi h0
    exact ⟨pb, po, e, by omega, hc⟩

/-- what law 2 reads off the timeline -/
theorem TState.ready {w wr : World} {n : Nat} {ad : Nat → Bool} {L : Nat → Nat} {cs : Nat → Nat → Int} (h : TState w wr n n ad L cs) (hx : n = 0 ∨ ∃ i, i < n ∧ ad i = true) :
    ∃ aU cU aR cR un R, wr.cell? ⟨w.heap.size, 141, none⟩ = some (.slice aU n cU) ∧ wr.cell? ⟨w.heap.size, 142, none⟩ = some (.slice aR (List.length R) cR) ∧ RowI wr aU n un ∧ RowI wr aR R.length (rdOf R) ∧
      RInv n (csl L cs) (Aq ad n) un R ∧ w.heap.size < wr.heap.size ∧ Below w.heap.size w wr := by
  obtain ⟨v, g, dl, R, hT, hM, hJ, hU, hB⟩ := h
  obtain ⟨-, -, -, -, -, -, c1, c2⟩ := hT.row.cell
  obtain ⟨aU, cU, eU, rU⟩ := hT.U.rowI
  obtain ⟨aR, cR, eR, rR⟩ := hT.R.rowI
  have hu : g.u = n := by
    rcases hU with h | ⟨h1, h2⟩
    · exact h
    · rcases hx with h0 | ⟨i, hi, ha⟩
      · rw [eU] at h1
        simp only [Value.slice.injEq] at h1
        omega
      · have := h2 i hi
        simp [Aq, hi, ha] at this
  rw [hu] at eU rU
  rw [eU] at c1
  rw [hJ.r] at eR rR
  rw [eR] at c2
  refine ⟨aU, cU, aR, cR, g.un, R, c1, c2, rU, ?_, hJ.ri, hT.lt, hB⟩
  intro h0
  obtain ⟨b, e, hl, hc⟩ := rR h0
  exact ⟨b, e, hl, fun j hj => by rw [hc j hj, hJ.rd j hj]⟩

def isT : Option Value → Bool
  | some (.bool b) => b
  | _ => false

/-- how many stand true in the row, read off memory -/
def cntW (w : World) (g n : Nat) : Nat := cnt (fun j => isT (w.cell? ⟨g, j, none⟩)) n

theorem BoolsAt.cntW {w : World} {B g n : Nat} {f : Nat → Bool} (h : BoolsAt w B g n f) : cntW w g n = cnt f n := by
  unfold Mem.cntW
  apply cnt_congr
  intro i hi
  rw [h.cell hi]; rfl

/-- the first u causes of node t are ready -/
def AllF (cs : Nat → Nat → Int) (f : Nat → Bool) (t u : Nat) : Prop := ∀ j, j < u → f (cN cs t j) = true
theorem AllF.succ {cs : Nat → Nat → Int} {f : Nat → Bool} {t u : Nat} (h : AllF cs f t u) (hu : f (cN cs t u) = true) : AllF cs f t (u + 1) := by
  intro j hj
  by_cases e : j = u
  · subst e; exact hu
  · exact h j (by omega)

/-- the first t nodes ask for nothing more -/
def CloT (n : Nat) (ad : Nat → Bool) (L : Nat → Nat) (cs : Nat → Nat → Int) (f : Nat → Bool) (t : Nat) : Prop := ∀ i, i < t → i < n → ad i = true → AllF cs f i (L i) → f i = true
theorem CloT.succ {n : Nat} {ad : Nat → Bool} {L : Nat → Nat} {cs : Nat → Nat → Int} {f : Nat → Bool} {t : Nat} (h : CloT n ad L cs f t) (ht : ad t = true → AllF cs f t (L t) → f t = true) : CloT n ad L cs f (t + 1) := by
  intro i hi hn ha hf
  by_cases e : i = t
  · subst e; exact ht ha hf
  · exact h i (by omega) hn ha hf
theorem CloT.all {n : Nat} {ad : Nat → Bool} {L : Nat → Nat} {cs : Nat → Nat → Int} {f : Nat → Bool} (h : CloT n ad L cs f n) : CloB n ad L cs f := fun i hi ha hf => h i hi hi ha hf

theorem Snd.ad {n : Nat} {ad : Nat → Bool} {L : Nat → Nat} {cs : Nat → Nat → Int} {f : Nat → Bool} (h : Snd n ad L cs f) {c : Nat} (hc : c < n) (hn : ad c = false) : f c = false := by
  cases hf : f c with
  | false => rfl
  | true =>
    have := h (fun i => ad i = true) (fun i _ ha _ => ha) c hc hf
    rw [hn] at this; cases this

/-- one pass over the nodes, begun with the row f2 -/
def Pass (n : Nat) (ad : Nat → Bool) (L : Nat → Nat) (cs : Nat → Nat → Int) (f2 f3 : Nat → Bool) (p : Bool) (t : Nat) : Prop :=
  Snd n ad L cs f3 ∧ (p = true → cnt f2 n < cnt f3 n) ∧ cnt f2 n ≤ cnt f3 n ∧ (p = false → CloT n ad L cs f3 t)

section
variable {n : Nat} {ad : Nat → Bool} {L : Nat → Nat} {cs : Nat → Nat → Int} {f2 f3 : Nat → Bool} {p : Bool} {t : Nat}
theorem Pass.start (h : Snd n ad L cs f2) : Pass n ad L cs f2 f2 false 0 := ⟨h, (fun h => by cases h), Nat.le_refl _, fun _ i hi => by omega⟩
theorem Pass.skip (h : Pass n ad L cs f2 f3 p t) (ht : ad t = true → AllF cs f3 t (L t) → f3 t = true) : Pass n ad L cs f2 f3 p (t + 1) := ⟨h.1, h.2.1, h.2.2.1, fun hp => (h.2.2.2 hp).succ ht⟩
theorem Pass.hit (h : Pass n ad L cs f2 f3 p t) (ht : t < n) (ha : ad t = true) (hf : f3 t = false) (hall : AllF cs f3 t (L t)) (hc : ∀ j, j < L t → cN cs t j < n) : Pass n ad L cs f2 (upd f3 t true) true (t + 1) := by
  have hcu := cnt_upd f3 n t true ht
  rw [hf] at hcu
  simp only [Bool.false_eq_true, if_false, if_true, Nat.add_zero] at hcu
  have := h.2.2.1
  exact ⟨h.1.set ht ha (fun j hj => ⟨hc j hj, hall j hj⟩), fun _ => by omega, by omega, fun h => by cases h⟩
end
end Go.Proofs.Qxb6616545a.Mem
