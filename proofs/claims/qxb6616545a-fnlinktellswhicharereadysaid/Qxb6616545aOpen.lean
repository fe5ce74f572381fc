import Derived.Test.Qxb6616545aArg
import Derived.Deep.Matrix
import Derived.OpenShut
import Derived.ShutString
import Derived.ChangeOld
/-! FROM THE READING OF THE TWO ARGUMENTS TO 'Args' -/
namespace Go.Proofs.Qxb6616545a.Mem
set_option linter.unusedVariables false
set_option linter.unusedSimpArgs false
open Go.ChangeShapes Go.WideShapes Go.ChangeAt Go.RowKit Go.Deep

theorem cells4 : Try.prog.cellsOf 4 = 1 := by kernel_rfl
theorem cells31 : Try.prog.cellsOf 31 = 1 := by kernel_rfl
theorem cells21 : Try.prog.cellsOf 21 = 1 := by kernel_rfl

theorem addr_plain {w : World} {a : Addr} {f : Nat → Value} {k : Nat} (h : ∀ i, i < k → w.cell? (a.add i) = some (f i)) (hp : 0 < k) :
    ∃ b off, a = ⟨b, off, none⟩ ∧ b < w.heap.size ∧ ∀ j, j < k → w.cell? ⟨b, off + j, none⟩ = some (f j) := by
  obtain ⟨b, off, spot⟩ := a
  have h0 := h 0 hp
  have hspot : spot = none := by simpa [Addr.add] using World.cell?_spot h0
  subst hspot
  have hlt : b < w.heap.size := by
    have e : (⟨b, off, none⟩ : Addr).add 0 = ⟨b, off, none⟩ := rfl
    rw [e] at h0
    unfold World.cell? at h0
    cases hb : w.heap[b]? with
    | none => simp [hb] at h0
    | some o => exact (Array.getElem?_eq_some_iff.1 hb).1
  exact ⟨b, off, rfl, hlt, fun j hj => by rw [← Go.WideShapes.add_plain]; exact h j hj⟩

theorem bools_of {H : Type} {enc : TypeId × Value → H} {W : World} {a : Option Addr} {n c : Nat} {d : DataW H} {p : List MemPlace} (h : DataW.Trod enc Try.prog W 0 (fun _ => true) true 22 (.slice a n c) d p) :
    n ≤ 9223372036854775807 ∧ ∃ ad : Nat → Bool, 0 < n → ∃ pb po, a = some ⟨pb, po, none⟩ ∧ pb < W.heap.size ∧ ∀ i, i < n → W.cell? ⟨pb, po + i, none⟩ = some (.bool (ad i)) := by
  obtain ⟨fuel, hf⟩ := h
  rcases open_slice1 Try.underlying22 cells4 hf with ⟨hcs, _⟩ | ⟨x, len, cap, m, k, V, D, Pl, hcs, _, hl, hm, hmm, _, hx⟩
  · simp [Value.cells] at hcs
    obtain ⟨rfl, rfl, rfl⟩ := hcs
    exact ⟨by omega, fun _ => false, fun h => by omega⟩
  · simp [Value.cells] at hcs
    obtain ⟨rfl, rfl, rfl⟩ := hcs
    simp only [if_true] at hmm
    subst hmm
    unfold maxLen at hm
    refine ⟨by omega, fun i => match V i with | .bool b => b | _ => false, fun h0 => ?_⟩
    obtain ⟨pb, po, e, hlt, hc⟩ := addr_plain (f := V) (k := n) (fun i hi => (hx i (by omega)).1) h0
    refine ⟨pb, po, by rw [e], hlt, fun i hi => ?_⟩
    obtain ⟨b, hb, _⟩ := DataW.trod_bool Try.underlying4 (hx i (by omega)).2
    simp only [List.cons.injEq, and_true] at hb
    rw [hc i hi, hb]
    simp only [hb]

theorem rows_of {H : Type} {enc : TypeId × Value → H} {W : World} {a : Option Addr} {n c : Nat} {d : DataW H} {p : List MemPlace} (h : DataW.Trod enc Try.prog W 0 (fun _ => true) true 23 (.slice a n c) d p) :
    n ≤ 9223372036854775807 ∧ ∃ (A : Nat → Option Addr) (L C : Nat → Nat) (cs : Nat → Nat → Int), (0 < n → ∃ pb po, a = some ⟨pb, po, none⟩ ∧ pb < W.heap.size ∧ ∀ i, i < n → W.cell? ⟨pb, po + i, none⟩ = some (.slice (A i) (L i) (C i))) ∧
      (∀ i, i < n → A i = none → L i = 0 ∧ C i = 0) ∧ (∀ i, i < n → 0 < L i → ∃ pb po, A i = some ⟨pb, po, none⟩ ∧ pb < W.heap.size ∧ ∀ j, j < L i → W.cell? ⟨pb, po + j, none⟩ = some (.int .i32 (cs i j))) ∧
      (∀ i, i < n → L i ≤ 9223372036854775807) ∧ ∀ i, i < n → ∀ j, j < L i → -2147483648 ≤ cs i j ∧ cs i j ≤ 2147483647 := by
  obtain ⟨fuel, hf⟩ := h
  rcases open_int_rows Try.underlying23 Try.underlying31 Try.underlying21 cells31 cells21 hf with ⟨hcs, _⟩ | ⟨x, len, cap, A, L, C, Z, hcs, _, hl, hm, _, hx⟩
  · simp [Value.cells] at hcs
    obtain ⟨rfl, rfl, rfl⟩ := hcs
    exact ⟨by omega, fun _ => none, fun _ => 0, fun _ => 0, fun _ _ => 0, fun h => (by omega), fun i hi => (by omega), fun i hi => (by omega), fun i hi => (by omega), fun i hi => (by omega)⟩
  · simp [Value.cells] at hcs
    obtain ⟨rfl, rfl, rfl⟩ := hcs
    unfold maxLen at hm
    refine ⟨by omega, A, L, C, fun i j => (Z i).getD j 0, fun h0 => ?_, fun i hi hn => ?_, fun i hi h0 => ?_, fun i hi => ?_, fun i hi j hj => ?_⟩
    · obtain ⟨pb, po, e, hlt, hc⟩ := addr_plain (f := fun i => .slice (A i) (L i) (C i)) (k := n) (fun i hi => (hx i (by omega)).1) h0
      exact ⟨pb, po, by rw [e], hlt, hc⟩
    · obtain ⟨_, h1, h2, h3, h4, h5, h6⟩ := hx i (by omega)
      have := h5 hn
      omega
    · obtain ⟨_, h1, h2, h3, h4, h5, h6⟩ := hx i (by omega)
      cases hA : A i with
      | none => have := h5 hA; omega
      | some a' =>
        obtain ⟨pb, po, e, hlt, hc⟩ := addr_plain (f := fun j => .int .i32 ((Z i).getD j 0)) (k := L i) (fun j hj => (h6 a' hA).2 j (by omega)) h0
        exact ⟨pb, po, by rw [e], hlt, hc⟩
    · obtain ⟨_, h1, h2, h3, h4, h5, h6⟩ := hx i (by omega)
      unfold maxLen at h2
      omega
    · obtain ⟨_, h1, h2, h3, h4, h5, h6⟩ := hx i (by omega)
      have hj' : j < (Z i).length := by omega
      have hmem : (Z i).getD j 0 ∈ Z i := by simp [List.getD, List.getElem?_eq_getElem hj']
      have := h4 _ hmem
      have hb := bounds_i32 this
      exact hb

theorem args_of {H : Type} {enc : TypeId × Value → H} {W : World} {a0 a1 : Option Addr} {n0 c0 n1 c1 : Nat} {d0 d1 : DataW H} {p0 p1 : List MemPlace} (h0 : DataW.Trod enc Try.prog W 0 (fun _ => true) true 22 (.slice a0 n0 c0) d0 p0)
    (h1 : DataW.Trod enc Try.prog W 0 (fun _ => true) true 23 (.slice a1 n1 c1) d1 p1) : ∃ ad A L C cs, Args W W.heap.size a0 n0 a1 n1 ad A L C cs := by
  obtain ⟨l0, ad, ha⟩ := bools_of h0
  obtain ⟨l1, A, L, C, cs, hc, hn, hr, hl, hw⟩ := rows_of h1
  exact ⟨ad, A, L, C, cs, ha, hc, hn, hr, l0, l1, hl, hw⟩

end Go.Proofs.Qxb6616545a.Mem
