import Derived.Test.Qxb6616545aArg
/-! rows of bools that the call makes -/
namespace Go.Proofs.Qxb6616545a.Mem
set_option linter.unusedVariables false
set_option linter.unusedSimpArgs false
open Go.RowKit

def BoolsAt (w : World) (B : Nat) (g n : Nat) (f : Nat → Bool) : Prop := Own w B 4 1 (.slice (some ⟨g, 0, none⟩) n n) n (fun j => .bool (f j))

section
variable {w w' : World} {B g n : Nat} {f : Nat → Bool}
theorem BoolsAt.cell (h : BoolsAt w B g n f) {j : Nat} (hj : j < n) : w.cell? ⟨g, j, none⟩ = some (.bool (f j)) := Own.cell h (by omega)
theorem BoolsAt.frozen (h : BoolsAt w B g n f) (j : Nat) : w.frozen? ⟨g, j, none⟩ = false := Own.frozen h j
theorem BoolsAt.set (h : BoolsAt w B g n f) (j : Nat) (x : Bool) : BoolsAt (w.setCell ⟨g, j, none⟩ (.bool x)) B g n (upd f j x) := by
  refine (Own.set h j (.bool x)).1.congr (fun i _ => ?_)
  by_cases e : i = j <;> simp [upd, e]
theorem BoolsAt.ge (h : BoolsAt w B g n f) : B ≤ g ∧ g < w.heap.size := Own.lt h g rfl
theorem BoolsAt.below {Z : Nat} (h : BoolsAt w B g n f) (hb : Below Z w w') (hg : g < Z) : BoolsAt w' B g n f := by
  obtain ⟨xs, ho, hF⟩ := h
  obtain ⟨h1, h2⟩ := ho
  rcases h2 with ⟨h', _⟩ | ⟨g', cap', cur, h', r1, r2, r3⟩
  · simp at h'
  · have e : g' = g := by simp at h'; exact h'.1.symm
    subst e
    exact ⟨xs, ⟨h1, .inr ⟨g', cap', cur, h', r1, (hb.block g' hg).trans r2, r3⟩⟩, hF⟩
theorem BoolsAt.alloc (h : BoolsAt w B g n f) (o : Obj) : BoolsAt (w.alloc o) B g n f := Own.alloc h o
theorem BoolsAt.setOther (h : BoolsAt w B g n f) {b : Nat} (hb : g ≠ b) (i : Nat) (x : Value) : BoolsAt (w.setCell ⟨b, i, none⟩ x) B g n f :=
  Own.kept h (grown_set w b i x) (.inr (by simp [Value.ownBlock, hb]))
end

theorem made_bools (w : World) (B n : Nat) (hB : B ≤ w.heap.size) (hn : n ≤ maxLen) : BoolsAt (w.alloc (.cells (madeCells #[.bool false] n) 4)) B w.heap.size n (fun _ => false) := by
  refine ⟨_, World.ownsRow_lit (base := B) (e := 4) (size := 1) w (madeCells #[.bool false] n) n hB hn (by simp [madeCells]), fun j hj => ?_⟩
  rw [toList_madeCells_one]
  have : j < n := by omega
  simp [this]

/-- 'make([]bool, n)' -/
theorem wpList_mkbools (w : World) {ops : Array Oper} {rest : List Oper} {o : Oper} {a : Act} {Q : Exit → Act → World → Prop} (hg : o.guard = none) (x : Operand) (ho : o.op = .makeSlice 22 x x) (n : Nat) (hn : n ≤ 1048576)
    (hx : a.eval x = .int .i64 (n : Int)) (h : wpList Try.prog ops Q rest (a.put o.dst (.slice (some ⟨w.heap.size, 0, none⟩) n n)) (w.alloc (.cells (madeCells #[.bool false] n) 4))) : wpList Try.prog ops Q (o :: rest) a w := by
  refine wpList_plain hg fun K' hK' => ?_
  obtain ⟨i0, hi, hz0, hz1, hz2⟩ := info_parts info4
  have hr := run_make (P := Try.prog) w 22 4 i0 (.bool false) Try.underlying22 hi hz0 .i64 .i64 n n (by omega) (Int.le_refl _) (by rw [hz2]; omega) (by omega)
  simp only [Int.toNat_natCast, hz1, Nat.mul_one] at hr
  unfold Oper.wp execOp
  simp only [ho, hx, Sem.run_bind, hr, Result.andThen_ok]
  exact hK' _ _ h

end Go.Proofs.Qxb6616545a.Mem
