import Derived.Test.Qxb6616545aMem
/-! THE TIMELINE IN MEMORY. -/
namespace Go.Proofs.Qxb6616545a.Mem
set_option linter.unusedVariables false
set_option linter.unusedSimpArgs false
open Go.RowKit

/-- what the timeline holds, in plain numbers -/
structure G where
  n : Nat
  rk : Nat → Int
  fi : Nat → Int
  de : Nat → Int
  m : Nat
  cd : Nat → Int
  cn : Nat → Int
  l : Nat
  u : Nat
  un : Nat → Int
  r : Nat
  rd : Nat → Int
  hd : Nat → Bool
  ms : Nat → Bool

/-- the values in the timeline's fields -/
structure V where
  N : Value
  C : Value
  L : Value
  U : Value
  R : Value
  H : Option Nat
  M : Option Nat

/-- the timeline's own block -/
def TRow (w : World) (T : Nat) (v : V) : Prop :=
  ∃ F, w.rowIs T 92 251 F ∧ F 6 = v.N ∧ F 7 = v.C ∧ F 78 = v.L ∧ F 103 = .bool false ∧ F 139 = .map v.H ∧ F 140 = .map v.M ∧ F 141 = v.U ∧ F 142 = v.R

def NodesAt (w : World) (B : Nat) (v : Value) (n : Nat) (rk fi de : Nat → Int) : Prop :=
  ∃ F, Own w B 101 9 v n F ∧ ∀ i, i < n → F (i * 9) = .int .i32 (rk i) ∧ F (i * 9 + 1) = .int .i32 (fi i) ∧ F (i * 9 + 2) = .int .i32 (de i)

def CitesAt (w : World) (B : Nat) (v : Value) (m : Nat) (cd cn : Nat → Int) : Prop :=
  ∃ F, Own w B 109 2 v m F ∧ ∀ i, i < m → F (i * 2) = .int .i32 (cd i) ∧ F (i * 2 + 1) = .int .i32 (cn i)

def IntsAt (w : World) (B : Nat) (v : Value) (n : Nat) (f : Nat → Int) : Prop := Own w B 21 1 v n (fun j => .int .i32 (f j))

def RowAt (w : World) (B : Nat) (v : Value) (n : Nat) : Prop := ∃ F, Own w B 21 1 v n F

/-- two slices lie in different blocks -/
def Apart (v v' : Value) : Prop := ∀ b, v.ownBlock = some b → v'.ownBlock ≠ some b

structure TMem (w : World) (B T : Nat) (v : V) (g : G) : Prop where
  bt : B ≤ T
  row : TRow w T v
  N : NodesAt w B v.N g.n g.rk g.fi g.de
  C : CitesAt w B v.C g.m g.cd g.cn
  L : RowAt w B v.L g.l
  U : IntsAt w B v.U g.u g.un
  R : IntsAt w B v.R g.r g.rd
  lu : Apart v.L v.U
  lr : Apart v.L v.R
  ur : Apart v.U v.R

/-- both maps are made, and hold these sets -/
structure MMem (w : World) (B : Nat) (v : V) (n : Nat) (hd ms : Nat → Bool) (bH bM : Nat) : Prop where
  eH : v.H = some bH
  eM : v.M = some bM
  ne : bH ≠ bM
  lH : B ≤ bH
  lM : B ≤ bM
  H : SetIs w bH n hd
  M : SetIs w bM n ms

section
variable {w w' : World} {B T : Nat} {v : V} {g : G}

theorem TRow.cell (h : TRow w T v) : w.cell? ⟨T, 6, none⟩ = some v.N ∧ w.cell? ⟨T, 7, none⟩ = some v.C ∧ w.cell? ⟨T, 78, none⟩ = some v.L ∧ w.cell? ⟨T, 103, none⟩ = some (.bool false) ∧
    w.cell? ⟨T, 139, none⟩ = some (.map v.H) ∧ w.cell? ⟨T, 140, none⟩ = some (.map v.M) ∧ w.cell? ⟨T, 141, none⟩ = some v.U ∧ w.cell? ⟨T, 142, none⟩ = some v.R := by
  obtain ⟨F, h, e1, e2, e3, e4, e5, e6, e7, e8⟩ := h
  refine ⟨?_, ?_, ?_, ?_, ?_, ?_, ?_, ?_⟩
  all_goals (rw [h.cell (by decide)]; simp only [e1, e2, e3, e4, e5, e6, e7, e8])

theorem TRow.frozen (h : TRow w T v) (i : Nat) : w.frozen? ⟨T, i, none⟩ = false := by
  obtain ⟨F, h, _⟩ := h
  exact h.frozen i

theorem TRow.lt (h : TRow w T v) : T < w.heap.size := by
  obtain ⟨F, h, _⟩ := h
  exact h.lt

theorem TRow.of_block (h : TRow w T v) (e : w'.heap[T]? = w.heap[T]?) : TRow w' T v := by
  obtain ⟨F, h, r⟩ := h
  exact ⟨F, h.of_block e, r⟩

theorem TRow.kept {row : Option Nat} (h : TRow w T v) (hg : w.grownBy w' row) (hne : some T ≠ row) : TRow w' T v :=
  h.of_block (hg.block T h.lt hne)

theorem TRow.set (h : TRow w T v) (i : Nat) (x : Value) (v' : V)
    (e : (if (6 : Nat) = i then x else v.N) = v'.N ∧ (if (7 : Nat) = i then x else v.C) = v'.C ∧ (if (78 : Nat) = i then x else v.L) = v'.L ∧ (if (103 : Nat) = i then x else .bool false) = .bool false ∧
      (if (139 : Nat) = i then x else .map v.H) = .map v'.H ∧ (if (140 : Nat) = i then x else .map v.M) = .map v'.M ∧ (if (141 : Nat) = i then x else v.U) = v'.U ∧ (if (142 : Nat) = i then x else v.R) = v'.R) :
    TRow (w.setCell ⟨T, i, none⟩ x) T v' := by
  obtain ⟨F, h, e1, e2, e3, e4, e5, e6, e7, e8⟩ := h
  refine ⟨_, h.set i x, ?_⟩
  simp only [e1, e2, e3, e4, e5, e6, e7, e8]
  exact e

theorem grown_set (w : World) (b i : Nat) (x : Value) : w.grownBy (w.setCell ⟨b, i, none⟩ x) (some b) :=
  ⟨rfl, rfl, rfl, by simp, fun k _ hk => heap_setCell_other w ⟨b, i, none⟩ k x (fun e => hk (by simp [e]))⟩

theorem TRow.ne_own (h : TRow w T v) {e : TypeId} {k : Nat} {x : Value} {n : Nat} {F : Nat → Value} (ho : Own w B e k x n F) (he : e ≠ 92) : x.ownBlock ≠ some T := by
  obtain ⟨a, c, rfl, _, ha⟩ := ho.form
  intro hb
  cases a with
  | none => cases hb
  | some p =>
    obtain ⟨blk, off, spot⟩ := p
    have := ha _ rfl
    simp only [Addr.mk.injEq, true_and] at this
    obtain ⟨rfl, rfl⟩ := this
    obtain ⟨cur, hc⟩ := ho.block
    obtain ⟨F', ⟨c', hc', _⟩, _⟩ := h
    simp only [Value.ownBlock, Option.some.injEq] at hb
    subst hb
    rw [hc] at hc'
    simp only [Option.some.injEq, Obj.cells.injEq] at hc'
    exact he hc'.2.1

theorem Own.ne_own {e e' : TypeId} {k k' : Nat} {x x' : Value} {n n' : Nat} {F F' : Nat → Value} (h : Own w B e k x n F) (h' : Own w B e' k' x' n' F') (he : e ≠ e') : Apart x x' := by
  obtain ⟨a, c, rfl, _, ha⟩ := h.form
  obtain ⟨a', c', rfl, _, ha'⟩ := h'.form
  intro b hb hb'
  cases a with
  | none => cases hb
  | some p =>
    cases a' with
    | none => cases hb'
    | some p' =>
      obtain ⟨blk, off, spot⟩ := p
      obtain ⟨blk', off', spot'⟩ := p'
      have h1 := ha _ rfl
      have h2 := ha' _ rfl
      simp only [Addr.mk.injEq, true_and] at h1 h2
      obtain ⟨rfl, rfl⟩ := h1
      obtain ⟨rfl, rfl⟩ := h2
      obtain ⟨cur, hc⟩ := h.block
      obtain ⟨cur', hc'⟩ := h'.block
      simp only [Value.ownBlock, Option.some.injEq] at hb hb'
      subst hb
      subst hb'
      rw [hc] at hc'
      simp only [Option.some.injEq, Obj.cells.injEq] at hc'
      exact he hc'.2.1

theorem SetIs.ne_own {b N : Nat} {S : Nat → Bool} (h : SetIs w b N S) {e : TypeId} {k : Nat} {x : Value} {n : Nat} {F : Nat → Value} (ho : Own w B e k x n F) : x.ownBlock ≠ some b := by
  obtain ⟨a, c, rfl, _, ha⟩ := ho.form
  intro hb
  cases a with
  | none => cases hb
  | some p =>
    obtain ⟨blk, off, spot⟩ := p
    have := ha _ rfl
    simp only [Addr.mk.injEq, true_and] at this
    obtain ⟨rfl, rfl⟩ := this
    obtain ⟨cur, hc⟩ := ho.block
    obtain ⟨es, clock, hc'⟩ := h.block
    simp only [Value.ownBlock, Option.some.injEq] at hb
    subst hb
    rw [hc] at hc'
    cases hc'

theorem SetIs.ne_row {b N : Nat} {S : Nat → Bool} (h : SetIs w b N S) (ht : TRow w T v) : b ≠ T := by
  rintro rfl
  obtain ⟨es, clock, hc'⟩ := h.block
  obtain ⟨F', ⟨c', hc, _⟩, _⟩ := ht
  rw [hc] at hc'
  cases hc'

theorem Apart.symm {x x' : Value} (h : Apart x x') : Apart x' x := fun b h1 h2 => h b h2 h1

end
end Go.Proofs.Qxb6616545a.Mem
