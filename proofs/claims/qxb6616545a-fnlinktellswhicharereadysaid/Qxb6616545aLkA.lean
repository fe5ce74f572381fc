import Derived.Test.Qxb6616545aApp
import Derived.Deep.DeepCutAuto
import Derived.Outline
import Derived.Maps.RangeWalk
namespace Go.Proofs.Qxb6616545a.Mem
set_option linter.unusedVariables false
set_option linter.unusedSimpArgs false
open Go.RowKit

/-- a block that holds the members' set, which carries none -/
def BoxAt (w : World) (b : Nat) : Prop := w.heap[b]? = some (.cells #[.slice none 0 0, .bool false] 104 (0, 0))

/-- the maps: not made yet, and nothing in the sets; or made -/
def Maps2 (w : World) (B : Nat) (v : V) (n : Nat) (hd ms : Nat → Bool) : Prop :=
  (v.H = none ∧ v.M = none ∧ (∀ i, i < n → hd i = false) ∧ ∀ i, i < n → ms i = false) ∨ ∃ bH bM, MMem w B v n hd ms bH bM

theorem guard_map (w : World) (m : Option Nat) : (eqGuard .eql 60 (.tmp 13) (.const (.map none)) (.map m) (.map none)).run Try.prog w = .ok () w := by
  cases m <;> kernel_rfl
theorem eql_map (w : World) (m : Option Nat) : (binOp .eql 60 (.map m) (.map none)).run Try.prog w = .ok (.bool m.isNone) w := by
  cases m <;> kernel_rfl
theorem wpList_mapnil (w : World) {ops : Array Oper} {rest : List Oper} {o : Oper} {a : Act} {Q : Exit → Act → World → Prop} (hg : o.guard = none) (ho : o.op = Op.binOp .eql 60 (.tmp 13) (.const (.map none)) 60)
    (m : Option Nat) (hx : a.eval (.tmp 13) = .map m) (h : wpList Try.prog ops Q rest (a.put o.dst (.bool m.isNone)) w) : wpList Try.prog ops Q (o :: rest) a w := by
  refine wpList_plain hg fun K' hK' => ?_
  have hc : a.eval (.const (.map none)) = .map none := rfl
  unfold Oper.wp execOp
  simp only [ho, hx, hc, Sem.run_bind, guard_map, eql_map, Result.andThen_ok]
  exact hK' _ _ h

theorem TMem.setH {w : World} {B T : Nat} {v : V} {g : G} (h : TMem w B T v g) (x : Option Nat) : TMem (w.setCell ⟨T, 139, none⟩ (.map x)) B T { v with H := x } g := by
  have g2 := grown_set w T 139 (.map x)
  obtain ⟨_, hN, _⟩ := id h.N
  obtain ⟨_, hC, _⟩ := id h.C
  obtain ⟨_, hL⟩ := id h.L
  exact ⟨h.bt, h.row.set 139 _ _ ⟨rfl, rfl, rfl, rfl, rfl, rfl, rfl, rfl⟩, h.N.kept g2 (off_some (h.row.ne_own hN (by decide))), h.C.kept g2 (off_some (h.row.ne_own hC (by decide))),
    h.L.kept g2 (off_some (h.row.ne_own hL (by decide))), h.U.kept g2 (off_some (h.row.ne_own h.U (by decide))), h.R.kept g2 (off_some (h.row.ne_own h.R (by decide))), h.lu, h.lr, h.ur⟩
theorem TMem.setM {w : World} {B T : Nat} {v : V} {g : G} (h : TMem w B T v g) (x : Option Nat) : TMem (w.setCell ⟨T, 140, none⟩ (.map x)) B T { v with M := x } g := by
  have g2 := grown_set w T 140 (.map x)
  obtain ⟨_, hN, _⟩ := id h.N
  obtain ⟨_, hC, _⟩ := id h.C
  obtain ⟨_, hL⟩ := id h.L
  exact ⟨h.bt, h.row.set 140 _ _ ⟨rfl, rfl, rfl, rfl, rfl, rfl, rfl, rfl⟩, h.N.kept g2 (off_some (h.row.ne_own hN (by decide))), h.C.kept g2 (off_some (h.row.ne_own hC (by decide))),
    h.L.kept g2 (off_some (h.row.ne_own hL (by decide))), h.U.kept g2 (off_some (h.row.ne_own h.U (by decide))), h.R.kept g2 (off_some (h.row.ne_own h.R (by decide))), h.lu, h.lr, h.ur⟩

theorem BoxAt.kept {w w' : World} {b : Nat} {row : Option Nat} (h : BoxAt w b) (hg : w.grownBy w' row) (hne : some b ≠ row) : BoxAt w' b := by
  unfold BoxAt at h ⊢
  rw [hg.block b (Array.getElem?_eq_some_iff.1 h).1 hne]
  exact h
theorem BoxAt.alloc {w : World} {b : Nat} (h : BoxAt w b) (o : Obj) : BoxAt (w.alloc o) b := h.kept (World.grownBy_alloc w o none) (by simp)
theorem BoxAt.made (w : World) : BoxAt (w.alloc (.cells #[.slice none 0 0, .bool false] 104)) w.heap.size := heap_alloc_new w _
theorem BoxAt.ne_row {w : World} {b T : Nat} {v : V} (h : BoxAt w b) (ht : TRow w T v) : b ≠ T := by
  rintro rfl
  obtain ⟨F', ⟨c', hc, _⟩, _⟩ := ht
  unfold BoxAt at h
  rw [hc] at h
  simp at h
theorem BoxAt.ne_set {w : World} {b b' N : Nat} {S : Nat → Bool} (h : BoxAt w b) (hs : SetIs w b' N S) : b ≠ b' := by
  rintro rfl
  obtain ⟨es, clock, hc⟩ := hs.block
  unfold BoxAt at h
  rw [hc] at h
  cases h
theorem BoxAt.cell {w : World} {b : Nat} (h : BoxAt w b) : w.cell? ⟨b, 0, none⟩ = some (.slice none 0 0) ∧ w.cell? ⟨b, 1, none⟩ = some (.bool false) := by
  unfold BoxAt at h
  constructor
  · rw [cell_of_row w b 0 _ _ _ h]; rfl
  · rw [cell_of_row w b 1 _ _ _ h]; rfl

/-- both maps are new -/
theorem maps_new {w : World} {B T : Nat} {v : V} {g : G} (h : TMem w B T v g) (hd ms : Nat → Bool) (h1 : ∀ i, i < g.n → hd i = false) (h2 : ∀ i, i < g.n → ms i = false) (b0 : Nat) (hb : BoxAt w b0) :
    ∃ v' bH bM, TMem ((((w.alloc (.map #[] 0)).alloc (.map #[] 0)).setCell ⟨T, 139, none⟩ (.map (some w.heap.size))).setCell ⟨T, 140, none⟩ (.map (some (w.heap.size + 1)))) B T v' g ∧
      MMem ((((w.alloc (.map #[] 0)).alloc (.map #[] 0)).setCell ⟨T, 139, none⟩ (.map (some w.heap.size))).setCell ⟨T, 140, none⟩ (.map (some (w.heap.size + 1)))) B v' g.n hd ms bH bM ∧
      BoxAt ((((w.alloc (.map #[] 0)).alloc (.map #[] 0)).setCell ⟨T, 139, none⟩ (.map (some w.heap.size))).setCell ⟨T, 140, none⟩ (.map (some (w.heap.size + 1)))) b0 ∧ v'.U = v.U := by
  have hT1 := (h.alloc (.map #[] 0)).alloc (.map #[] 0)
  have hT2 := hT1.setH (some w.heap.size)
  have hT3 := hT2.setM (some (w.heap.size + 1))
  have hlt := h.lt
  have hbt := h.bt
  have s1 : SetIs ((w.alloc (.map #[] 0)).alloc (.map #[] 0)) w.heap.size g.n hd := ((SetIs.made w g.n).alloc _).congr (fun i hi => (h1 i hi).symm)
  have s2 : SetIs ((w.alloc (.map #[] 0)).alloc (.map #[] 0)) (w.heap.size + 1) g.n ms := by
    have := (SetIs.made (w.alloc (.map #[] 0)) g.n).congr (fun i hi => (h2 i hi).symm)
    simpa using this
  have gA := grown_set ((w.alloc (.map #[] 0)).alloc (.map #[] 0)) T 139 (.map (some w.heap.size))
  have gB := grown_set (((w.alloc (.map #[] 0)).alloc (.map #[] 0)).setCell ⟨T, 139, none⟩ (.map (some w.heap.size))) T 140 (.map (some (w.heap.size + 1)))
  have nT1 : some w.heap.size ≠ some T := by simp; omega
  have nT2 : some (w.heap.size + 1) ≠ some T := by simp; omega
  have nB : some b0 ≠ some T := by have := hb.ne_row h.row; simp [this]
  refine ⟨_, w.heap.size, w.heap.size + 1, hT3, ⟨rfl, rfl, by omega, by omega, by omega, (s1.kept gA nT1).kept gB nT1, (s2.kept gA nT2).kept gB nT2⟩, ?_⟩
  exact ⟨(((hb.alloc _).alloc _).kept gA nB).kept gB nB, rfl⟩

theorem TMem.nodes_form {w : World} {B T : Nat} {v : V} {g : G} (h : TMem w B T v g) (hn : 0 < g.n) : ∃ gN cN, v.N = .slice (some ⟨gN, 0, none⟩) g.n cN := by
  obtain ⟨F, hO⟩ := h.own_nodes
  obtain ⟨a, c, e, h1, h2⟩ := hO.form
  cases a with
  | none => have := (h1 rfl).1; omega
  | some p => exact ⟨p.block, c, by rw [e, h2 p rfl]⟩

theorem TMem.lists_form {w : World} {B T : Nat} {v : V} {g : G} (h : TMem w B T v g) : ∃ a c, v.L = .slice a g.l c := by
  obtain ⟨F, hO⟩ := h.L
  obtain ⟨a, c, e, _, _⟩ := hO.form
  exact ⟨a, c, e⟩

end Go.Proofs.Qxb6616545a.Mem
