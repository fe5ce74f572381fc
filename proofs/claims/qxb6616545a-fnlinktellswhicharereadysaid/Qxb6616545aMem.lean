import Derived.Test.Qxb6616545aRows
import Derived.WalkKit
import Derived.ProofKit
import Derived.Deep.OwnRows
import Derived.Maps.OwnSet
import Derived.Maps.AppendAt
import Derived.Deep.AppendLies
/-! THE MEMORY OF A TIMELINE: rows that the call owns, by a function from cells to values; sets of node numbers; the timeline's own block. -/
namespace Go.Proofs.Qxb6616545a.Mem
set_option linter.unusedVariables false
set_option linter.unusedSimpArgs false
open Go.RowKit

/-- F, turned at j -/
def upd {α : Type} (F : Nat → α) (j : Nat) (x : α) : Nat → α := fun i => if i = j then x else F i

theorem upd_same {α : Type} (F : Nat → α) (j : Nat) (x : α) : upd F j x j = x := by simp [upd]
theorem upd_other {α : Type} (F : Nat → α) {i j : Nat} (x : α) (h : i ≠ j) : upd F j x i = F i := by simp [upd, h]

/-- The slice value v, of n elements of k cells each, owns a row of the call's own (blocks from B on); its cell j holds F j. -/
def Own (w : World) (B : Nat) (e : TypeId) (k : Nat) (v : Value) (n : Nat) (F : Nat → Value) : Prop :=
  ∃ xs, w.ownsRow B e k v n xs ∧ ∀ j, j < n * k → xs[j]? = some (F j)

section
variable {w w' : World} {B : Nat} {e : TypeId} {k : Nat} {v : Value} {n : Nat} {F : Nat → Value} {g cap : Nat}

theorem Own.form (h : Own w B e k v n F) : ∃ a c, v = .slice a n c ∧ (a = none → n = 0 ∧ c = 0) ∧ (∀ p, a = some p → p = ⟨p.block, 0, none⟩) := by
  obtain ⟨xs, h, _⟩ := h
  rcases h.2 with ⟨rfl, rfl⟩ | ⟨g, cap, cur, rfl, _⟩
  · exact ⟨none, 0, rfl, fun _ => ⟨rfl, rfl⟩, fun p hp => (by cases hp)⟩
  · exact ⟨some ⟨g, 0, none⟩, cap, rfl, fun hp => (by cases hp), fun p hp => (by cases hp; rfl)⟩

theorem Own.cell (h : Own w B e k (.slice (some ⟨g, 0, none⟩) n cap) n F) {j : Nat} (hj : j < n * k) : w.cell? ⟨g, j, none⟩ = some (F j) := by
  obtain ⟨xs, h, hF⟩ := h
  rw [h.cellAt j hj, hF j hj]

theorem Own.frozen (h : Own w B e k (.slice (some ⟨g, 0, none⟩) n cap) n F) (j : Nat) : w.frozen? ⟨g, j, none⟩ = false := by
  obtain ⟨xs, h, _⟩ := h
  exact h.frozenAt j

theorem Own.set (h : Own w B e k (.slice (some ⟨g, 0, none⟩) n cap) n F) (j : Nat) (x : Value) :
    Own (w.setCell ⟨g, j, none⟩ x) B e k (.slice (some ⟨g, 0, none⟩) n cap) n (upd F j x) ∧ w.grownBy (w.setCell ⟨g, j, none⟩ x) (some g) := by
  obtain ⟨xs, h, hF⟩ := h
  obtain ⟨h1, h2⟩ := h.stored j x
  refine ⟨⟨xs.set j x, h1, fun i hi => ?_⟩, h2⟩
  have hl := h.1
  by_cases e : i = j
  · subst e
    rw [upd_same, List.getElem?_set_self (by omega)]
  · rw [upd_other F x e, List.getElem?_set_ne (Ne.symm e), hF i hi]

theorem Own.kept {row : Option Nat} (h : Own w B e k v n F) (hg : w.grownBy w' row) (hne : v.ownBlock = none ∨ v.ownBlock ≠ row) : Own w' B e k v n F := by
  obtain ⟨xs, h, hF⟩ := h
  exact ⟨xs, h.kept hg hne, hF⟩

theorem Own.alloc (h : Own w B e k v n F) (o : Obj) : Own (w.alloc o) B e k v n F := by
  obtain ⟨xs, h, hF⟩ := h
  exact ⟨xs, h.alloc o, hF⟩

theorem Own.drew (h : Own w B e k v n F) : Own w.drew B e k v n F := by
  obtain ⟨xs, h, hF⟩ := h
  exact ⟨xs, h.drew, hF⟩

theorem Own.congr {G : Nat → Value} (h : Own w B e k v n F) (he : ∀ j, j < n * k → F j = G j) : Own w B e k v n G := by
  obtain ⟨xs, h, hF⟩ := h
  exact ⟨xs, h, fun j hj => by rw [hF j hj, he j hj]⟩

theorem Own.lt (h : Own w B e k v n F) : ∀ b, v.ownBlock = some b → B ≤ b ∧ b < w.heap.size := by
  obtain ⟨xs, h, _⟩ := h
  exact h.lt

theorem Own.nil (w : World) (B : Nat) (e : TypeId) (k : Nat) (F : Nat → Value) : Own w B e k (.slice none 0 0) 0 F :=
  ⟨[], World.ownsRow_nil _ _ _ _, fun j hj => by omega⟩

/-- the block's own element type -/
theorem Own.block (h : Own w B e k (.slice (some ⟨g, 0, none⟩) n cap) n F) : ∃ cur, w.heap[g]? = some (.cells cur e (0, 0)) := by
  obtain ⟨xs, h, _⟩ := h
  rcases h.2 with ⟨h', _⟩ | ⟨g', cap', cur, h', _, hg, _⟩
  · simp at h'
  · simp only [Value.slice.injEq, Option.some.injEq, Addr.mk.injEq, and_true, true_and] at h'
    obtain ⟨rfl, rfl⟩ := h'
    exact ⟨cur, hg⟩

end

/-- how many of the first n are in S -/
def cnt (S : Nat → Bool) (n : Nat) : Nat := ((List.range n).filter S).length

theorem cnt_le (S : Nat → Bool) (n : Nat) : cnt S n ≤ n := by
  have := List.length_filter_le S (List.range n)
  simpa [cnt] using this

theorem cnt_succ (S : Nat → Bool) (n : Nat) : cnt S (n + 1) = cnt S n + if S n then 1 else 0 := by
  unfold cnt
  rw [List.range_succ, List.filter_append]
  by_cases h : S n <;> simp [h]

theorem cnt_congr {S S' : Nat → Bool} {n : Nat} (h : ∀ i, i < n → S i = S' i) : cnt S n = cnt S' n := by
  unfold cnt
  rw [List.filter_congr (fun x hx => h x (List.mem_range.1 hx))]

theorem cnt_upd (S : Nat → Bool) (n i : Nat) (b : Bool) (h : i < n) : cnt (upd S i b) n + (if S i then 1 else 0) = cnt S n + if b then 1 else 0 := by
  induction n with
  | zero => omega
  | succ n ih =>
    rw [cnt_succ, cnt_succ]
    by_cases e : i = n
    · subst e
      have : cnt (upd S i b) i = cnt S i := cnt_congr (fun j hj => upd_other S b (by omega))
      rw [upd_same, this]
      omega
    · rw [upd_other S b (Ne.symm e)]
      have := ih (by omega)
      omega

theorem cnt_false (n : Nat) : cnt (fun _ => false) n = 0 := by
  induction n with
  | zero => rfl
  | succ n ih => rw [cnt_succ, ih]; rfl

/-! ### sets of node numbers: map[int32]struct -/
theorem law : Maps.Keyed Try.prog 21 := Maps.int_keyed Try.underlying21
theorem zero96 (w : World) : (zeroValue 96).run Try.prog w = .ok (.agg #[]) w := by kernel_rfl
theorem key (i : Nat) (h : i < 2147483648) : keyOf Try.prog 21 (.int .i32 (i : Int)) = some (.int .i32 (i : Int)) := Maps.keyOf_int_mk Try.underlying21 (WalkArith.wf_i32 (by omega))
theorem key_ne {i j : Nat} (h : i ≠ j) : (Lit.int .i32 (i : Int)) ≠ .int .i32 (j : Int) := by
  intro e
  simp only [Lit.int.injEq, true_and] at e
  omega

/-- block b is a set of node numbers: of those below N it holds just those in S -/
def SetIs (w : World) (b N : Nat) (S : Nat → Bool) : Prop :=
  ∃ D : DataW Unit, w.ownsMap Try.prog 21 (unitElem (H := Unit)) b (cnt S N) D ∧ (∀ i, i < N → Maps.has D (.int .i32 (i : Int)) = S i) ∧ Maps.size D = cnt S N

theorem tight {w : World} {b m : Nat} {D : DataW Unit} (h : w.ownsMap Try.prog 21 (unitElem (H := Unit)) b m D) : w.ownsMap Try.prog 21 (unitElem (H := Unit)) b (Maps.size D) D := by
  obtain ⟨es, clock, hb, F, hs, rfl⟩ := h
  refine ⟨es, clock, hb, F, ?_, rfl⟩
  simp [Maps.size, length_sorted]

section
variable {w w' : World} {b N : Nat} {S : Nat → Bool}
theorem SetIs.kept {row : Option Nat} (h : SetIs w b N S) (hg : w.grownBy w' row) (hne : some b ≠ row) : SetIs w' b N S := by
  obtain ⟨D, h1, h2⟩ := h
  exact ⟨D, h1.kept hg hne, h2⟩
theorem SetIs.alloc (h : SetIs w b N S) (o : Obj) : SetIs (w.alloc o) b N S := by
  obtain ⟨D, h1, h2⟩ := h
  exact ⟨D, h1.alloc o, h2⟩
theorem SetIs.drew (h : SetIs w b N S) : SetIs w.drew b N S := by
  obtain ⟨D, h1, h2⟩ := h
  exact ⟨D, h1.drew, h2⟩
theorem SetIs.lt (h : SetIs w b N S) : b < w.heap.size := by
  obtain ⟨D, h1, h2⟩ := h
  exact h1.lt
theorem SetIs.congr {S' : Nat → Bool} (h : SetIs w b N S) (he : ∀ i, i < N → S i = S' i) : SetIs w b N S' := by
  obtain ⟨D, h1, h2, h3⟩ := h
  have e := cnt_congr he
  exact ⟨D, by rw [← e]; exact h1, fun i hi => by rw [h2 i hi, he i hi], by rw [h3, e]⟩
theorem SetIs.made (w : World) (N : Nat) : SetIs (w.alloc (.map #[] 0)) w.heap.size N (fun _ => false) :=
  ⟨.map [], by rw [cnt_false]; exact World.ownsMap_made (H := Unit) w Try.prog 21 unitElem, fun i hi => rfl, by rw [cnt_false]; rfl⟩
theorem SetIs.block (h : SetIs w b N S) : ∃ es clock, w.heap[b]? = some (.map es clock) := by
  obtain ⟨D, ⟨es, clock, h1, _⟩, _⟩ := h
  exact ⟨es, clock, h1⟩

theorem SetIs.of_put {D : DataW Unit} {m i : Nat} (hi : i < N) (hD : Maps.Tidy D) (h2 : ∀ j, j < N → Maps.has D (.int .i32 (j : Int)) = S j) (h3 : Maps.size D = cnt S N)
    (h : w'.ownsMap Try.prog 21 (unitElem (H := Unit)) b m (D.put (.int .i32 (i : Int)) (.agg []))) : SetIs w' b N (upd S i true) := by
  have hc := cnt_upd S N i true hi
  have hs := Maps.size_put (k := .int .i32 (i : Int)) hD (.agg [])
  rw [h2 i hi, h3] at hs
  have e : Maps.size (D.put (.int .i32 (i : Int)) (.agg [])) = cnt (upd S i true) N := by
    rw [hs]
    by_cases h : S i = true
    · simp [h] at hc ⊢; omega
    · simp [h] at hc ⊢; omega
  refine ⟨_, by rw [← e]; exact tight h, fun j hj => ?_, e⟩
  by_cases ej : j = i
  · subst ej
    rw [upd_same, Maps.has_put_same (k := .int .i32 (j : Int)) hD.isMap (by exact trivial)]
  · rw [upd_other S true ej, Maps.has_put_other (key_ne ej), h2 j hj]

theorem SetIs.of_del {D : DataW Unit} {m i : Nat} (hi : i < N) (hD : Maps.Tidy D) (h2 : ∀ j, j < N → Maps.has D (.int .i32 (j : Int)) = S j) (h3 : Maps.size D = cnt S N)
    (h : w'.ownsMap Try.prog 21 (unitElem (H := Unit)) b m (D.del (.int .i32 (i : Int)))) : SetIs w' b N (upd S i false) := by
  have hc := cnt_upd S N i false hi
  have hs := Maps.size_del (k := .int .i32 (i : Int)) hD
  rw [h2 i hi, h3] at hs
  have e : Maps.size (D.del (.int .i32 (i : Int))) = cnt (upd S i false) N := by
    by_cases h : S i = true
    · simp [h] at hc hs ⊢; omega
    · simp [h] at hc hs ⊢; omega
  refine ⟨_, by rw [← e]; exact tight h, fun j hj => ?_, e⟩
  by_cases ej : j = i
  · subst ej
    rw [upd_same, Maps.has_del_same]
  · rw [upd_other S false ej, Maps.has_del_other (key_ne ej), h2 j hj]
end

/-! ### at the operation -/
section
variable (w : World) {ops : Array Oper} {rest : List Oper} {o : Oper} {a : Act} {Q : Exit → Act → World → Prop}
theorem wpList_set_put (hg : o.guard = none) (m x v : Operand) (hop : o.op = Op.mapUpdate 60 m x v) (b N : Nat) (S : Nat → Bool) (i : Nat)
    (hm : a.eval m = .map (some b)) (h : SetIs w b N S) (hN : N ≤ 1024) (hi : i < N) (hx : a.eval x = .int .i32 (i : Int)) (hv : a.eval v = .agg #[])
    (hK : ∀ w', SetIs w' b N (upd S i true) → w.grownBy w' (some b) → wpList Try.prog ops Q rest (a.put o.dst undef) w') :
    wpList Try.prog ops Q (o :: rest) a w := by
  obtain ⟨D, h1, h2, h3⟩ := h
  have := cnt_le S N
  exact wpList_mapUpdate_own w hg m x v 60 hop 21 96 law Try.underlying60 unitElem b (cnt S N) D hm h1 (by unfold maxLen; omega) _ _ _ hx hv (key i (by omega)) (.agg []) [] unitElem_mk
    (fun w' h4 h5 => hK w' (SetIs.of_put hi (h1.tidy law) h2 h3 h4) h5)

theorem wpList_set_del (hg : o.guard = none) (m x : Operand) (hop : o.op = Op.call { callee := Callee.builtin Builtin.delete, args := #[m, x], argTypes := #[60, 21] }) (b N : Nat) (S : Nat → Bool) (i : Nat)
    (hm : a.eval m = .map (some b)) (h : SetIs w b N S) (hN : N ≤ 1024) (hi : i < N) (hx : a.eval x = .int .i32 (i : Int))
    (hK : ∀ w', SetIs w' b N (upd S i false) → w.grownBy w' (some b) → wpList Try.prog ops Q rest (a.put o.dst (.tuple #[])) w') :
    wpList Try.prog ops Q (o :: rest) a w := by
  obtain ⟨D, h1, h2, h3⟩ := h
  exact wpList_delete_own w hg m x 60 21 hop 96 law Try.underlying60 unitElem b (cnt S N) D hm h1 _ _ hx (key i (by omega))
    (fun w' h4 h5 => hK w' (SetIs.of_del hi (h1.tidy law) h2 h3 h4) h5.grown)

theorem wpList_set_has (hg : o.guard = none) (m x : Operand) (hop : o.op = Op.lookup 60 m x true) (b N : Nat) (S : Nat → Bool) (i : Nat)
    (hm : a.eval m = .map (some b)) (h : SetIs w b N S) (hN : N ≤ 1024) (hi : i < N) (hx : a.eval x = .int .i32 (i : Int))
    (hK : wpList Try.prog ops Q rest (a.put o.dst (.tuple #[.agg #[], .bool (S i)])) w) :
    wpList Try.prog ops Q (o :: rest) a w := by
  obtain ⟨D, h1, h2, h3⟩ := h
  exact wpList_lookup_own_unit w hg m x 60 hop 21 96 law Try.underlying60 (zero96 _) b (cnt S N) D hm h1 _ _ hx (key i (by omega)) (by rw [h2 i hi]; exact hK)

theorem wpList_set_len (hg : o.guard = none) (m : Operand) (hop : o.op = Op.call { callee := Callee.builtin Builtin.len, args := #[m], argTypes := #[60] }) (b N : Nat) (S : Nat → Bool)
    (hm : a.eval m = .map (some b)) (h : SetIs w b N S)
    (hK : wpList Try.prog ops Q rest (a.put o.dst (.int .i64 (cnt S N : Nat))) w) :
    wpList Try.prog ops Q (o :: rest) a w := by
  obtain ⟨D, h1, h2, h3⟩ := h
  exact wpList_len_own w hg m 60 hop 21 96 Try.underlying60 unitElem b (cnt S N) D hm h1 (by rw [h3]; exact hK)
end

end Go.Proofs.Qxb6616545a.Mem
