import Derived.Test.Qxb6616545aCi
/-! what the walk of graphWellFormed wants -/
namespace Go.Proofs.Qxb6616545a.Mem
set_option linter.unusedVariables false
set_option linter.unusedSimpArgs false
open Go.RowKit

/-- 'xs[j]' behind a guard that says yes -/
theorem wpList_idx_w (w : World) {ops : Array Oper} {rest : List Oper} {o : Oper} {a : Act} {Q : Exit → Act → World → Prop} (x i : Operand) (t e : TypeId) (ho : o.op = .indexAddr t x i) (hw : Region.wanted o (yielded ops a.tmps) = true)
    (ht : Try.prog.underlying t = some (.slice e)) (hinfo : (Try.prog.info? e).map (fun i => i.size) = some 1) (ca : Option Addr) (k cap : Nat) (q : IntKind) (j : Nat) (pb po : Nat) (hca : ca = some ⟨pb, po, none⟩)
    (hx : a.eval x = .slice ca k cap) (J : Int) (hi : a.eval i = .int q J) (hJ : J = (j : Int)) (hj : j < k) (h : wpList Try.prog ops Q rest (a.put o.dst (.pointer (some ⟨pb, po + j, none⟩))) w) : wpList Try.prog ops Q (o :: rest) a w := by
  subst hca hJ
  obtain ⟨i0, h0, h1⟩ := Option.map_eq_some_iff.1 hinfo
  have he : Try.prog.elem t = e := by simp [Program.elem, ht]
  have hr : (Instr.indexAt t (.slice (some ⟨pb, po, none⟩) k cap) (.int q (j : Int))).run Try.prog w = .ok (.pointer (some ⟨pb, po + j, none⟩)) w := by
    rw [run_indexAt_slice w t _ k cap q (j : Int) (by rw [he]; exact ht), if_pos (by omega), he]
    simp [sizeOf, typeInfo, h0, h1, Addr.add, Result.andThen]
  unfold wpList
  rw [if_pos hw]
  refine .inl ?_
  unfold Oper.wp execOp
  simp only [ho, hx, hi, Sem.run_bind, hr, Result.andThen_ok]
  exact h

/-- a bool's value -/
def boolOf : Value → Bool
  | .bool b => b
  | _ => false

/-- the first t causes of node i are as they must be -/
def RowOK (n : Nat) (cs : Nat → Nat → Int) (i t : Nat) : Prop := ∀ j, j < t → 0 ≤ cs i j ∧ cs i j < n ∧ cs i j ≠ i ∧ (0 < j → cs i (j - 1) < cs i j)

/-- the graph is well formed, as far as the laws want it -/
def WF (n m : Nat) (ad : Nat → Bool) (L : Nat → Nat) (cs : Nat → Nat → Int) : Prop := m = n ∧ ∀ i, i < n → ad i = true → RowOK n cs i (L i)

def WPost (w w' : World) (e : Ending) (n m : Nat) (ad : Nat → Bool) (L : Nat → Nat) (cs : Nat → Nat → Int) : Prop := Below w.heap.size w w' ∧ ∃ b, e = .returned (.bool b) ∧ (b = true → WF n m ad L cs)

theorem wpost_no {w w' : World} {n m : Nat} {ad : Nat → Bool} {L : Nat → Nat} {cs : Nat → Nat → Int} (h : Below w.heap.size w w') : WPost w w' (.returned (.bool false)) n m ad L cs := ⟨h, false, rfl, fun h => by cases h⟩
theorem wpost_any {w w' : World} {n : Nat} {ad : Nat → Bool} {L : Nat → Nat} {cs : Nat → Nat → Int} (h : Below w.heap.size w w') (hw : ∀ i, i < n → ad i = true → RowOK n cs i (L i)) (b : Bool) : WPost w w' (.returned (.bool b)) n n ad L cs := ⟨h, b, rfl, fun _ => ⟨rfl, hw⟩⟩

theorem rowOK_succ {n : Nat} {cs : Nat → Nat → Int} {i t : Nat} (h : RowOK n cs i t) (h0 : 0 ≤ cs i t) (h1 : cs i t < n) (h2 : cs i t ≠ i) (h3 : 0 < t → cs i (t - 1) < cs i t) : RowOK n cs i (t + 1) := by
  intro j hj
  by_cases e : j = t
  · subst e; exact ⟨h0, h1, h2, h3⟩
  · exact h j (by omega)

end Go.Proofs.Qxb6616545a.Mem
