import Derived.Test.Qxb6616545aBt
/-! ZZisHead, ZZisMissing, ZZheadCount, ZZmissingCount -/
namespace Go.Proofs.Qxb6616545a.Mem
set_option linter.unusedVariables false
set_option linter.unusedSimpArgs false
open Go.RowKit
open Go.Proofs.Qxb6616545a.Plain

/-- a set in a field: no map yet, and nothing in the set; or a map that holds it -/
def SetOr (w : World) (mo : Option Nat) (n : Nat) (S : Nat → Bool) : Prop := (mo = none ∧ ∀ i, i < n → S i = false) ∨ ∃ b, mo = some b ∧ SetIs w b n S

theorem SetIs.below {w w' : World} {Z b n : Nat} {S : Nat → Bool} (h : SetIs w b n S) (hb : Below Z w w') (hz : b < Z) : SetIs w' b n S := by
  obtain ⟨D, ⟨es, clock, h1, h2⟩, h3⟩ := h
  exact ⟨D, ⟨es, clock, (hb.block b hz).trans h1, h2⟩, h3⟩
theorem SetOr.below {w w' : World} {mo : Option Nat} {n : Nat} {S : Nat → Bool} (h : SetOr w mo n S) (hb : Below w.heap.size w w') : SetOr w' mo n S := by
  rcases h with h | ⟨b, e, h⟩
  · exact .inl h
  · exact .inr ⟨b, e, h.below hb h.lt⟩

section
variable (w : World) {ops : Array Oper} {rest : List Oper} {o : Oper} {a : Act} {Q : Exit → Act → World → Prop}
theorem wpList_has_or (hg : o.guard = none) (m x : Operand) (hop : o.op = Op.lookup 60 m x true) (mo : Option Nat) (N : Nat) (S : Nat → Bool) (i : Nat)
    (hm : a.eval m = .map mo) (h : SetOr w mo N S) (hN : N ≤ 1024) (hi : i < N) (hx : a.eval x = .int .i32 (i : Int))
    (hK : wpList Try.prog ops Q rest (a.put o.dst (.tuple #[.agg #[], .bool (S i)])) w) : wpList Try.prog ops Q (o :: rest) a w := by
  rcases h with ⟨rfl, h⟩ | ⟨b, rfl, h⟩
  · refine wpList_plain hg fun K' hK' => ?_
    have hr := Maps.look_nil (P := Try.prog) (w := w) (t := 60) (e := 96) true law Try.underlying60 (zero96 w) (key i (by omega))
    simp only [if_true] at hr
    rw [h i hi] at hK
    unfold Oper.wp
    simp [execOp, hop, hm, hx, hr, Result.andThen]
    exact hK' _ _ hK
  · exact wpList_set_has w hg m x hop b N S i hm h hN hi hx hK
theorem wpList_len_or (hg : o.guard = none) (m : Operand) (hop : o.op = Op.call { callee := Callee.builtin Builtin.len, args := #[m], argTypes := #[60] }) (mo : Option Nat) (N : Nat) (S : Nat → Bool)
    (hm : a.eval m = .map mo) (h : SetOr w mo N S) (hK : wpList Try.prog ops Q rest (a.put o.dst (.int .i64 (cnt S N : Nat))) w) : wpList Try.prog ops Q (o :: rest) a w := by
  rcases h with ⟨rfl, h⟩ | ⟨b, rfl, h⟩
  · refine wpList_plain hg fun K' hK' => ?_
    have hr := Maps.len_nil (P := Try.prog) (w := w) (t := 60) (k := 21) (e := 96) Try.underlying60 o.type
    have e0 : cnt S N = 0 := by rw [cnt_congr h, cnt_false]
    rw [e0] at hK
    unfold Oper.wp
    simp [execOp, hop, resolve, invoke, builtin, hm, hr, Result.andThen]
    exact hK' _ _ hK
  · exact wpList_set_len w hg m hop b N S hm h hK
end

theorem isHead {w : World} {T n : Nat} {mo : Option Nat} {S : Nat → Bool} (hc : w.cell? ⟨T, 139, none⟩ = some (.map mo)) (hs : SetOr w mo n S) (hn : n ≤ 1024) (i : Nat) (hi : i < n) :
    Calls Try.prog 10 #[.pointer (some ⟨T, 0, none⟩), .int .i32 (i : Int)] w fun e w' => e = .returned (.bool (S i)) ∧ Below w.heap.size w w' := by
  have HS : Hid (SetOr w mo n S) := hs
  clear hs
  go_enter Try.func10, Try.ntmps10
  go_wp2_with (at_lookup; refine wpList_has_or _ rfl (.tmp 11) (.tmp 12) rfl mo n S i rfl HS.out hn hi rfl ?_)
  go_ret
  exact ⟨rfl, (Below.refl _ w).alloc (Nat.le_refl _) _⟩
theorem isMissing {w : World} {T n : Nat} {mo : Option Nat} {S : Nat → Bool} (hc : w.cell? ⟨T, 140, none⟩ = some (.map mo)) (hs : SetOr w mo n S) (hn : n ≤ 1024) (i : Nat) (hi : i < n) :
    Calls Try.prog 11 #[.pointer (some ⟨T, 0, none⟩), .int .i32 (i : Int)] w fun e w' => e = .returned (.bool (S i)) ∧ Below w.heap.size w w' := by
  have HS : Hid (SetOr w mo n S) := hs
  clear hs
  go_enter Try.func11, Try.ntmps11
  go_wp2_with (at_lookup; refine wpList_has_or _ rfl (.tmp 11) (.tmp 12) rfl mo n S i rfl HS.out hn hi rfl ?_)
  go_ret
  exact ⟨rfl, (Below.refl _ w).alloc (Nat.le_refl _) _⟩
theorem headCount {w : World} {T n : Nat} {mo : Option Nat} {S : Nat → Bool} (hc : w.cell? ⟨T, 139, none⟩ = some (.map mo)) (hs : SetOr w mo n S) :
    Calls Try.prog 12 #[.pointer (some ⟨T, 0, none⟩)] w fun e w' => e = .returned (.int .i64 (cnt S n : Nat)) ∧ w' = w := by
  have HS : Hid (SetOr w mo n S) := hs
  clear hs
  go_enter Try.func12, Try.ntmps12
  go_wp2_with (at_len; refine wpList_len_or _ rfl (.tmp 6) rfl mo n S rfl HS.out ?_)
  go_ret
  exact ⟨rfl, rfl⟩
theorem missingCount {w : World} {T n : Nat} {mo : Option Nat} {S : Nat → Bool} (hc : w.cell? ⟨T, 140, none⟩ = some (.map mo)) (hs : SetOr w mo n S) :
    Calls Try.prog 13 #[.pointer (some ⟨T, 0, none⟩)] w fun e w' => e = .returned (.int .i64 (cnt S n : Nat)) ∧ w' = w := by
  have HS : Hid (SetOr w mo n S) := hs
  clear hs
  go_enter Try.func13, Try.ntmps13
  go_wp2_with (at_len; refine wpList_len_or _ rfl (.tmp 6) rfl mo n S rfl HS.out ?_)
  go_ret
  exact ⟨rfl, rfl⟩

/-- what law 1 reads off the timeline -/
theorem TState.sets {w wr : World} {n : Nat} {ad : Nat → Bool} {L : Nat → Nat} {cs : Nat → Nat → Int} (h : TState w wr n n ad L cs) :
    ∃ mH mM hd ms, wr.cell? ⟨w.heap.size, 139, none⟩ = some (.map mH) ∧ wr.cell? ⟨w.heap.size, 140, none⟩ = some (.map mM) ∧ SetOr wr mH n hd ∧ SetOr wr mM n ms ∧ w.heap.size < wr.heap.size ∧ Below w.heap.size w wr ∧
      (∀ i, i < n → hd i = (ad i && !citedUpto ad L cs n i)) ∧ ∀ i, i < n → ms i = (!ad i && citedUpto ad L cs n i) := by
  obtain ⟨v, g, dl, R, hT, hM, hJ, _, hB⟩ := h
  obtain ⟨-, -, -, -, c1, c2, -, -⟩ := hT.row.cell
  have hA : ∀ i, i < n → Aq ad n i = ad i := fun i hi => by simp [Aq, hi]
  have hcite : ∀ i, i < n → (0 ≤ g.fi i ↔ citedUpto ad L cs n i = true) := by
    intro i hi
    rw [citedUpto_iff]
    have hd := hJ.gr.dep i hi
    have hm := hJ.gr.mem i hi
    constructor
    · intro h0
      cases hl : dl i with
      | nil =>
        rw [hl] at hd
        have : g.fi i < 0 := hd
        omega
      | cons x l =>
        obtain ⟨h1, h2, h3⟩ := (hm x).1 (by rw [hl]; exact List.mem_cons_self)
        rw [hA x h1] at h2
        obtain ⟨t, ht, e⟩ := mem_csl.1 h3
        exact ⟨x, h1, h2, t, ht, e⟩
    · rintro ⟨x, h1, h2, t, ht, e⟩
      have hx : x ∈ dl i := (hm x).2 ⟨h1, by rw [hA x h1]; exact h2, mem_csl.2 ⟨t, ht, e⟩⟩
      cases hl : dl i with
      | nil => rw [hl] at hx; cases hx
      | cons y l =>
        rw [hl] at hd
        have := hd.1
        omega
  refine ⟨v.H, v.M, g.hd, g.ms, c1, c2, ?_, ?_, hT.lt, hB, fun i hi => ?_, fun i hi => ?_⟩
  · rcases hM with ⟨h1, h2, h3, h4⟩ | ⟨bH, bM, h⟩
    · exact .inl ⟨h1, h3⟩
    · exact .inr ⟨bH, h.eH, h.H⟩
  · rcases hM with ⟨h1, h2, h3, h4⟩ | ⟨bH, bM, h⟩
    · exact .inl ⟨h2, h4⟩
    · exact .inr ⟨bM, h.eM, h.M⟩
  · rw [hJ.hd i hi, hA i hi]
    have := hcite i hi
    cases hc : citedUpto ad L cs n i with
    | true =>
      have h0 := this.2 hc
      have : ¬ g.fi i < 0 := by omega
      simp [this]
    | false =>
      have h0 : ¬ 0 ≤ g.fi i := fun h => by rw [this.1 h] at hc; cases hc
      have : g.fi i < 0 := by omega
      simp [this]
  · rw [hJ.ms i hi, hA i hi]
    have := hcite i hi
    cases hc : citedUpto ad L cs n i with
    | true => simp [this.2 hc]
    | false =>
      have h0 : ¬ 0 ≤ g.fi i := fun h => by rw [this.1 h] at hc; cases hc
      simp [h0]

end Go.Proofs.Qxb6616545a.Mem
