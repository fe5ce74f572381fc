import Derived.Test.Qxb6616545aMem
/-! THE PLAIN LAW OF READINESS: no Go in sight. cs i: the causes of node i; A i: it was added; R: the events found ready, in the order of finding; un i: how many causes node i waits for. -/
namespace Go.Proofs.Qxb6616545a.Plain
set_option linter.unusedVariables false
set_option linter.unusedSimpArgs false
open Go.Proofs.Qxb6616545a.Mem (upd upd_same upd_other)

/-- the citation of c by i has been counted off: c stands among the first 'at' found, or is the one in hand and i has been looked at -/
def rel (R : List Nat) (at_ u : Nat) (done : List Nat) (c i : Nat) : Bool := decide (c ∈ R.take at_) || (decide (c = u) && decide (i ∈ done))

structure BInv (n : Nat) (cs : Nat → List Nat) (A : Nat → Bool) (un : Nat → Int) (R : List Nat) (rl : Nat → Nat → Bool) : Prop where
  cnt : ∀ i, i < n → A i = true → un i = ((cs i).countP (fun c => !rl c i) : Nat)
  mem : ∀ i, i < n → (i ∈ R ↔ A i = true ∧ un i = 0)
  nd : R.Nodup
  lt : ∀ i ∈ R, i < n
  ord : ∀ p, p < R.length → ∀ c ∈ cs (R.getD p 0), c ∈ R.take p

theorem countP_drop {l : List Nat} {p q : Nat → Bool} {u : Nat} (hl : l.Nodup) (hu : u ∈ l) (hp : p u = true) (hq : q u = false) (h : ∀ c ∈ l, c ≠ u → p c = q c) : l.countP p = l.countP q + 1 := by
  induction l with
  | nil => cases hu
  | cons a l ih =>
    rw [List.nodup_cons] at hl
    by_cases e : a = u
    · subst e
      have : l.countP p = l.countP q := by
        apply List.countP_congr
        intro c hc
        have hne : c ≠ a := fun e => hl.1 (e ▸ hc)
        rw [h c (List.mem_cons_of_mem _ hc) hne]
      rw [List.countP_cons_of_pos hp, List.countP_cons_of_neg (by simp [hq]), this]
    · have hu' : u ∈ l := by
        rcases List.mem_cons.1 hu with h | h
        · exact absurd h.symm e
        · exact h
      have ih' := ih hl.2 hu' (fun c hc => h c (List.mem_cons_of_mem _ hc))
      have ha := h a (List.mem_cons_self) e
      rw [List.countP_cons, List.countP_cons, ih', ha]
      omega

section
variable {n : Nat} {cs : Nat → List Nat} {A : Nat → Bool} {un : Nat → Int} {R : List Nat}

theorem getD_mem {R : List Nat} {p : Nat} (h : p < R.length) : R.getD p 0 ∈ R := by
  simp [List.getD, List.getElem?_eq_getElem h]

theorem not_mem_take {R : List Nat} {p : Nat} (hn : R.Nodup) (h : p < R.length) : R.getD p 0 ∉ R.take p := by
  intro hm
  have e : R.getD p 0 = R[p] := by simp [List.getD, List.getElem?_eq_getElem h]
  rw [e] at hm
  obtain ⟨q, hq, he⟩ := List.getElem_of_mem hm
  simp only [List.getElem_take] at he
  have hq' : q < p := by simp at hq; omega
  exact List.pairwise_iff_getElem.1 hn q p (by omega) h hq' he

theorem mem_take_succ {R : List Nat} {p c : Nat} (h : p < R.length) : c ∈ R.take (p + 1) ↔ c ∈ R.take p ∨ c = R.getD p 0 := by
  rw [List.take_succ_eq_append_getElem h, List.mem_append]
  simp [List.getD, List.getElem?_eq_getElem h]

/-- one dependent of the event in hand -/
theorem BInv.step {at_ u i : Nat} {done : List Nat} (h : BInv n cs A un R (rel R at_ u done)) (hcs : (cs i).Nodup) (hat : at_ < R.length) (hu : R.getD at_ 0 = u)
    (hi : i < n) (hA : A i = true) (hui : u ∈ cs i) (hd : i ∉ done) :
    1 ≤ un i ∧ (un i - 1 ≠ 0 → BInv n cs A (upd un i (un i - 1)) R (rel R at_ u (done ++ [i]))) ∧
    (un i - 1 = 0 → BInv n cs A (upd un i (un i - 1)) (R ++ [i]) (rel (R ++ [i]) at_ u (done ++ [i]))) := by
  have hnt : u ∉ R.take at_ := by rw [← hu]; exact not_mem_take h.nd hat
  have hr0 : rel R at_ u done u i = false := by simp [rel, hnt, hd]
  have hr1 : rel R at_ u (done ++ [i]) u i = true := by simp [rel]
  have hrc : ∀ c, c ≠ u → rel R at_ u done c i = rel R at_ u (done ++ [i]) c i := by
    intro c hc
    simp [rel, hc]
  have hro : ∀ j, j ≠ i → ∀ c, rel R at_ u done c j = rel R at_ u (done ++ [i]) c j := by
    intro j hj c
    simp [rel, hj]
  have hdrop : (cs i).countP (fun c => !rel R at_ u done c i) = (cs i).countP (fun c => !rel R at_ u (done ++ [i]) c i) + 1 :=
    countP_drop hcs hui (by simp [hr0]) (by simp [hr1]) (fun c _ hc => by simp only [hrc c hc])
  have hun := h.cnt i hi hA
  rw [hdrop] at hun
  have hge : 1 ≤ un i := by omega
  have hnR : i ∉ R := by
    intro hm
    have := ((h.mem i hi).1 hm).2
    omega
  have hcnt : ∀ j, j < n → A j = true → upd un i (un i - 1) j = ((cs j).countP (fun c => !rel R at_ u (done ++ [i]) c j) : Nat) := by
    intro j hj hAj
    by_cases e : j = i
    · subst e
      rw [upd_same]
      omega
    · rw [upd_other un _ e, h.cnt j hj hAj]
      congr 1
      apply List.countP_congr
      intro c _
      rw [hro j e c]
  refine ⟨hge, fun hne => ⟨hcnt, ?_, h.nd, h.lt, h.ord⟩, fun hz => ⟨?_, ?_, ?_, ?_, ?_⟩⟩
  · intro j hj
    by_cases e : j = i
    · subst e
      rw [upd_same]
      exact ⟨fun hm => absurd hm hnR, fun hm => absurd hm.2 hne⟩
    · rw [upd_other un _ e]
      exact h.mem j hj
  · have hre : ∀ c j, rel (R ++ [i]) at_ u (done ++ [i]) c j = rel R at_ u (done ++ [i]) c j := by
      intro c j
      unfold rel
      rw [List.take_append_of_le_length (by omega)]
    intro j hj hAj
    rw [hcnt j hj hAj]
    congr 1
    apply List.countP_congr
    intro c _
    rw [hre c j]
  · intro j hj
    by_cases e : j = i
    · subst e
      rw [upd_same]
      exact ⟨fun _ => ⟨hA, hz⟩, fun _ => by simp⟩
    · rw [upd_other un _ e, List.mem_append, h.mem j hj]
      simp [e]
  · rw [List.nodup_append]
    refine ⟨h.nd, by simp, ?_⟩
    intro a ha b hb
    simp at hb
    subst hb
    exact fun e => hnR (e ▸ ha)
  · intro j hj
    rcases List.mem_append.1 hj with hj | hj
    · exact h.lt j hj
    · simp at hj
      subst hj
      exact hi
  · intro p hp c hc
    simp at hp
    by_cases e : p = R.length
    · subst e
      have e1 : (R ++ [i]).getD R.length 0 = i := by simp [List.getD]
      rw [e1] at hc
      rw [List.take_append_of_le_length (Nat.le_refl _), List.take_length]
      have hz' : (cs i).countP (fun c => !rel R at_ u (done ++ [i]) c i) = 0 := by omega
      have := List.countP_eq_zero.1 hz' c hc
      simp only [Bool.not_eq_true, Bool.not_eq_false'] at this
      simp only [rel, Bool.or_eq_true, decide_eq_true_eq, Bool.and_eq_true] at this
      rcases this with h1 | ⟨h1, _⟩
      · exact List.mem_of_mem_take h1
      · rw [h1, ← hu]
        exact getD_mem hat
    · have hp' : p < R.length := by omega
      have e1 : (R ++ [i]).getD p 0 = R.getD p 0 := by simp [List.getD, List.getElem?_append_left hp']
      rw [e1] at hc
      rw [List.take_append_of_le_length (by omega)]
      exact h.ord p hp' c hc

/-- all dependents of the event in hand have been looked at: on to the next -/
theorem BInv.next {at_ u : Nat} {done : List Nat} (h : BInv n cs A un R (rel R at_ u done)) (hat : at_ < R.length) (hu : R.getD at_ 0 = u)
    (hd : ∀ i, i < n → A i = true → u ∈ cs i → i ∈ done) (u' : Nat) : BInv n cs A un R (rel R (at_ + 1) u' []) := by
  refine ⟨fun i hi hA => ?_, h.mem, h.nd, h.lt, h.ord⟩
  rw [h.cnt i hi hA]
  congr 1
  apply List.countP_congr
  intro c hc
  have : rel R at_ u done c i = rel R (at_ + 1) u' [] c i := by
    unfold rel
    rw [Bool.eq_iff_iff]
    simp only [Bool.or_eq_true, decide_eq_true_eq, Bool.and_eq_true, List.not_mem_nil, and_false, or_false, mem_take_succ hat, hu]
    constructor
    · rintro (h1 | ⟨h1, _⟩)
      · exact .inl h1
      · exact .inr h1
    · rintro (h1 | h1)
      · exact .inl h1
      · exact .inr ⟨h1, hd i hi hA (h1 ▸ hc)⟩
  rw [this]

theorem nodup_bound : ∀ (n : Nat) (R : List Nat), R.Nodup → (∀ i ∈ R, i < n) → R.length ≤ n
  | 0, R, _, h => by
    cases R with
    | nil => simp
    | cons a l => have := h a (List.mem_cons_self); omega
  | n + 1, R, hn, h => by
    by_cases hm : n ∈ R
    · have h1 := nodup_bound n (R.erase n) (hn.erase n) (fun i hi => by
        have h2 := (List.Nodup.mem_erase_iff hn).1 hi
        have := h i h2.2
        omega)
      rw [List.length_erase_of_mem hm] at h1
      omega
    · have := nodup_bound n R hn (fun i hi => by
        have := h i hi
        have : i ≠ n := fun e => hm (e ▸ hi)
        omega)
      omega

theorem BInv.bound {rl : Nat → Nat → Bool} (h : BInv n cs A un R rl) : R.length ≤ n := nodup_bound n R h.nd h.lt

/-- between two calls: the events found ready are just those whose causes all are -/
def RInv (n : Nat) (cs : Nat → List Nat) (A : Nat → Bool) (un : Nat → Int) (R : List Nat) : Prop := BInv n cs A un R (fun c _ => decide (c ∈ R))

theorem rel_all (u : Nat) (c i : Nat) : rel R R.length u [] c i = decide (c ∈ R) := by
  simp [rel]

/-- a new event that waits -/
theorem RInv.waits (h : RInv n cs A un R) {s : Nat} (hs : s < n) (hA : A s = false) {k : Int} (hk : k = ((cs s).countP (fun c => !decide (c ∈ R)) : Nat)) (hp : 0 < k) :
    RInv n cs (upd A s true) (upd un s k) R := by
  have hnR : s ∉ R := fun hm => by have := ((h.mem s hs).1 hm).1; rw [hA] at this; cases this
  refine ⟨fun i hi hAi => ?_, fun i hi => ?_, h.nd, h.lt, h.ord⟩
  · by_cases e : i = s
    · subst e; rw [upd_same]; exact hk
    · rw [upd_other A _ e] at hAi
      rw [upd_other un _ e]; exact h.cnt i hi hAi
  · by_cases e : i = s
    · subst e; rw [upd_same, upd_same]
      exact ⟨fun hm => absurd hm hnR, fun hm => by have := hm.2; omega⟩
    · rw [upd_other A _ e, upd_other un _ e]; exact h.mem i hi

/-- a new event that is ready -/
theorem RInv.ready (h : RInv n cs A un R) {s : Nat} (hs : s < n) (hA : A s = false) (hk : (cs s).countP (fun c => !decide (c ∈ R)) = 0) (u : Nat) :
    BInv n cs (upd A s true) (upd un s 0) (R ++ [s]) (rel (R ++ [s]) R.length u []) := by
  have hnR : s ∉ R := fun hm => by have := ((h.mem s hs).1 hm).1; rw [hA] at this; cases this
  have hre : ∀ c i, rel (R ++ [s]) R.length u [] c i = decide (c ∈ R) := by
    intro c i
    unfold rel
    rw [List.take_append_of_le_length (Nat.le_refl _), List.take_length]
    simp
  refine ⟨fun i hi hAi => ?_, fun i hi => ?_, ?_, ?_, ?_⟩
  · have e0 : (cs i).countP (fun c => !rel (R ++ [s]) R.length u [] c i) = (cs i).countP (fun c => !decide (c ∈ R)) := by
      apply List.countP_congr
      intro c _
      rw [hre c i]
    rw [e0]
    by_cases e : i = s
    · subst e; rw [upd_same, hk]; rfl
    · rw [upd_other A _ e] at hAi
      rw [upd_other un _ e]; exact h.cnt i hi hAi
  · by_cases e : i = s
    · subst e; rw [upd_same, upd_same]; simp
    · rw [upd_other A _ e, upd_other un _ e, List.mem_append, h.mem i hi]; simp [e]
  · rw [List.nodup_append]
    refine ⟨h.nd, by simp, ?_⟩
    intro a ha b hb
    simp at hb
    subst hb
    exact fun e => hnR (e ▸ ha)
  · intro j hj
    rcases List.mem_append.1 hj with hj | hj
    · exact h.lt j hj
    · simp at hj; subst hj; exact hs
  · intro p hp c hc
    simp at hp
    by_cases e : p = R.length
    · subst e
      have e1 : (R ++ [s]).getD R.length 0 = s := by simp [List.getD]
      rw [e1] at hc
      rw [List.take_append_of_le_length (Nat.le_refl _), List.take_length]
      have := List.countP_eq_zero.1 hk c hc
      simpa using this
    · have hp' : p < R.length := by omega
      have e1 : (R ++ [s]).getD p 0 = R.getD p 0 := by simp [List.getD, List.getElem?_append_left hp']
      rw [e1] at hc
      rw [List.take_append_of_le_length (by omega)]
      exact h.ord p hp' c hc

theorem BInv.done {u : Nat} (h : BInv n cs A un R (rel R R.length u [])) : RInv n cs A un R := by
  refine ⟨fun i hi hA => ?_, h.mem, h.nd, h.lt, h.ord⟩
  rw [h.cnt i hi hA]
  congr 1
  apply List.countP_congr
  intro c _
  rw [rel_all]

end
end Go.Proofs.Qxb6616545a.Plain
