import Derived.Test.Qxb6616545aAdd
import Derived.Laws.AppendOwnNone
/-! MORE LAWS AT 'append': rows of int32. -/
namespace Go.Proofs.Qxb6616545a.Mem
set_option linter.unusedVariables false
set_option linter.unusedSimpArgs false
open Go.RowKit

/-- where a grown slice lies -/
def Lies (w : World) (x v : Value) : Prop := x.ownBlock = v.ownBlock ∨ ∃ b, x.ownBlock = some b ∧ w.heap.size ≤ b

theorem lies_mono {w w0 : World} {x v : Value} (h : Lies w x v) (hs : w0.heap.size ≤ w.heap.size) : Lies w0 x v := by
  rcases h with h | ⟨b, h1, h2⟩
  · exact .inl h
  · exact .inr ⟨b, h1, by omega⟩

section
variable (w : World) {ops : Array Oper} {rest : List Oper} {o : Oper} {a : Act} {Q : Exit → Act → World → Prop}

/-- 'append(row, x)': x lies in a new block of one cell -/
theorem wpList_app_one (w0 : World) (hgd : o.guard = none) (s x : Operand)
    (ho : o.op = .call { callee := .builtin .append, args := #[s, x], argTypes := #[31, 31] })
    (B : Nat) (v : Value) (n : Nat) (f : Nat → Int) (y : Int) (hs : a.eval s = v) (hown : IntsAt w0 B v n f) (hw : w = w0.alloc (.cells #[.int .i32 y] 21))
    (H : Nat) (hH : w0.heap.size = H) (hx : a.eval x = .slice (some ⟨H, 0, none⟩) 1 1) (h63 : n + 1 ≤ 4194304) (hbase : B ≤ w0.heap.size)
    (h : ∀ g cap w', IntsAt w' B (.slice (some ⟨g, 0, none⟩) (n + 1) cap) (n + 1) (upd f n y) → w.grownBy w' v.ownBlock → Lies w (.slice (some ⟨g, 0, none⟩) (n + 1) cap) v →
      wpList Try.prog ops Q rest (a.put o.dst (.slice (some ⟨g, 0, none⟩) (n + 1) cap)) w') : wpList Try.prog ops Q (o :: rest) a w := by
  subst hw hH
  refine wpList_app _ hgd s x 31 ho 21 _ 1 4 Try.underlying31 info21 rfl (by decide) B v n _ hs (Own.alloc hown _) ⟨w0.heap.size, 0, none⟩ 1 1 _ hx (cells_of_new _ _ _ 1 rfl) (one_of _ 1 rfl (by simp [Value.oneCell'])) (by decide) h63 (by decide) (by simp; omega) ?_
  intro g cap w' h1 h2 h3
  refine h g cap w' (h1.congr ?_) h2 ?_
  · intro j hj
    by_cases e : j = n
    · subst e; simp [cat, upd]
    · have : j < n * 1 := by omega
      simp [cat, upd, e]; omega
  · rcases h3 with h3 | h3
    · exact .inl (by rw [h3]; rfl)
    · exact .inr ⟨g, rfl, by omega⟩

/-- the same, of a row whose content does not matter -/
theorem wpList_app_row1 (w0 : World) (hgd : o.guard = none) (s x : Operand)
    (ho : o.op = .call { callee := .builtin .append, args := #[s, x], argTypes := #[31, 31] })
    (B : Nat) (v : Value) (n : Nat) (y : Int) (hs : a.eval s = v) (hown : RowAt w0 B v n) (hw : w = w0.alloc (.cells #[.int .i32 y] 21))
    (H : Nat) (hH : w0.heap.size = H) (hx : a.eval x = .slice (some ⟨H, 0, none⟩) 1 1) (h63 : n + 1 ≤ 4194304) (hbase : B ≤ w0.heap.size)
    (h : ∀ g cap w', RowAt w' B (.slice (some ⟨g, 0, none⟩) (n + 1) cap) (n + 1) → w.grownBy w' v.ownBlock → Lies w (.slice (some ⟨g, 0, none⟩) (n + 1) cap) v →
      wpList Try.prog ops Q rest (a.put o.dst (.slice (some ⟨g, 0, none⟩) (n + 1) cap)) w') : wpList Try.prog ops Q (o :: rest) a w := by
  subst hw hH
  obtain ⟨F, hO⟩ := hown
  refine wpList_app _ hgd s x 31 ho 21 _ 1 4 Try.underlying31 info21 rfl (by decide) B v n _ hs (Own.alloc hO _) ⟨w0.heap.size, 0, none⟩ 1 1 _ hx (cells_of_new _ _ _ 1 rfl) (one_of _ 1 rfl (by simp [Value.oneCell'])) (by decide) h63 (by decide) (by simp; omega) ?_
  intro g cap w' h1 h2 h3
  refine h g cap w' ⟨_, h1⟩ h2 ?_
  rcases h3 with h3 | h3
  · exact .inl (by rw [h3]; rfl)
  · exact .inr ⟨g, rfl, by omega⟩

/-- 'append(row, xs...)': xs whatever slice of int32 that is read -/
theorem wpList_app_ints (hgd : o.guard = none) (s x : Operand)
    (ho : o.op = .call { callee := .builtin .append, args := #[s, x], argTypes := #[31, 31] })
    (B : Nat) (v : Value) (n : Nat) (hs : a.eval s = v) (hown : RowAt w B v n) (ca : Option Addr) (k cap : Nat) (f : Nat → Int)
    (hx : a.eval x = .slice ca k cap) (hnil : ca = none → k = 0 ∧ cap = 0) (hcell : ∀ p, ca = some p → ∀ j, j < k → w.cell? (p.add j) = some (.int .i32 (f j))) (h63 : n + k ≤ 4194304) (hbase : B ≤ w.heap.size)
    (h : ∀ a' c' w', RowAt w' B (.slice a' (n + k) c') (n + k) → w.grownBy w' v.ownBlock → Lies w (.slice a' (n + k) c') v →
      wpList Try.prog ops Q rest (a.put o.dst (.slice a' (n + k) c')) w') : wpList Try.prog ops Q (o :: rest) a w := by
  obtain ⟨F, hO⟩ := hown
  have g0 : w.grownBy w v.ownBlock := ⟨rfl, rfl, rfl, Nat.le_refl _, fun _ _ _ => rfl⟩
  obtain ⟨i0, hi, hz0, hz1, hz2⟩ := info_parts info21
  cases ca with
  | none =>
    obtain ⟨rfl, rfl⟩ := hnil rfl
    obtain ⟨a', c', rfl, _, _⟩ := hO.form
    obtain ⟨xs, hown, hF⟩ := id hO
    exact wpList_append_own_none hgd s x 31 ho B 21 i0 1 Try.underlying31 hi (.slice a' n c') n xs hs hown hx (h a' c' w ⟨F, hO⟩ g0 (.inl rfl))
  | some p =>
    obtain ⟨xs, hown, hF⟩ := id hO
    have hl : ((List.range k).map fun j => Value.int .i32 (f j)).length = k * 1 := by simp
    refine wpList_append_own_at w hgd s x 31 ho B 21 i0 _ 1 4 Try.underlying31 hi hz0 hz1 hz2 rfl (by decide) v n xs hs hown p k cap _ hx hl ?_ ?_ (by unfold maxLen; omega) (by omega) hbase ?_
    · intro j u hj
      have hj' : j < k := by
        have := (List.getElem?_eq_some_iff.1 hj).1
        simpa using this
      rw [hcell p rfl j hj']
      simpa [hj'] using hj
    · intro u hu
      obtain ⟨j, hj, rfl⟩ := List.mem_map.1 hu
      rfl
    · intro v' w' h1 h2 h3 h4
      have hR : RowAt w' B v' (n + k) := by
        refine ⟨fun j => (xs ++ (List.range k).map fun j => Value.int .i32 (f j)).getD j undef, _, h1, fun j hj => ?_⟩
        have := h1.1
        have hj' : j < (xs ++ (List.range k).map fun j => Value.int .i32 (f j)).length := by omega
        simp [List.getD, List.getElem?_eq_getElem hj']
      obtain ⟨F', hO'⟩ := hR
      obtain ⟨a', c', rfl, _, _⟩ := hO'.form
      refine h a' c' w' ⟨F', hO'⟩ h2 ?_
      rcases h4 with h4 | h4
      · exact .inl h4
      · exact .inr ⟨_, h4, Nat.le_refl _⟩

end
end Go.Proofs.Qxb6616545a.Mem
