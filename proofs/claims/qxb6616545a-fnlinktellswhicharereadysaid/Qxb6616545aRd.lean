import Derived.Test.Qxb6616545aJ
/-! WHICH ARE READY, IN PLAIN NUMBERS: no Go in sight. -/
namespace Go.Proofs.Qxb6616545a.Mem
set_option linter.unusedVariables false
set_option linter.unusedSimpArgs false
open Go.Proofs.Qxb6616545a.Plain

/-- a set that holds every added node whose causes it holds -/
def Clo (n : Nat) (ad : Nat → Bool) (L : Nat → Nat) (cs : Nat → Nat → Int) (S : Nat → Prop) : Prop := ∀ i, i < n → ad i = true → (∀ j, j < L i → S (cN cs i j)) → S i
/-- the row lies in every such set -/
def Snd (n : Nat) (ad : Nat → Bool) (L : Nat → Nat) (cs : Nat → Nat → Int) (f : Nat → Bool) : Prop := ∀ S : Nat → Prop, Clo n ad L cs S → ∀ i, i < n → f i = true → S i
def CloB (n : Nat) (ad : Nat → Bool) (L : Nat → Nat) (cs : Nat → Nat → Int) (f : Nat → Bool) : Prop := Clo n ad L cs (fun i => f i = true)

section
variable {n : Nat} {ad : Nat → Bool} {L : Nat → Nat} {cs : Nat → Nat → Int} {f : Nat → Bool} {un : Nat → Int} {R : List Nat}

theorem Snd.start : Snd n ad L cs (fun _ => false) := fun _ _ _ _ h => by cases h

theorem Snd.set (h : Snd n ad L cs f) {i : Nat} (hi : i < n) (ha : ad i = true) (hc : ∀ j, j < L i → cN cs i j < n ∧ f (cN cs i j) = true) : Snd n ad L cs (upd f i true) := by
  intro S hS k hk hf
  by_cases e : k = i
  · subst e
    exact hS k hk ha (fun j hj => h S hS _ (hc j hj).1 (hc j hj).2)
  · rw [upd_other _ _ e] at hf
    exact h S hS k hk hf

theorem aq_all {i : Nat} (hi : i < n) : Aq ad n i = ad i := by simp [Aq, hi]

theorem clo_R (h : RInv n (csl L cs) (Aq ad n) un R) : Clo n ad L cs (fun i => i ∈ R) := by
  intro i hi ha hc
  have hA : Aq ad n i = true := by rw [aq_all hi]; exact ha
  refine (h.mem i hi).2 ⟨hA, ?_⟩
  rw [h.cnt i hi hA]
  have : (csl L cs i).countP (fun c => !decide (c ∈ R)) = 0 := by
    rw [List.countP_eq_zero]
    intro c hc'
    obtain ⟨t, ht, e⟩ := mem_csl.1 hc'
    have := hc t ht
    rw [e] at this
    simp [this]
  rw [this]; rfl

theorem R_clo (h : RInv n (csl L cs) (Aq ad n) un R) (hf : CloB n ad L cs f) : ∀ p, p < R.length → f (R.getD p 0) = true := by
  intro p
  induction p using Nat.strongRecOn with
  | _ p ih =>
    intro hp
    have hm := getD_mem hp
    have hl := h.lt _ hm
    have ha := ((h.mem _ hl).1 hm).1
    rw [aq_all hl] at ha
    refine hf _ hl ha (fun j hj => ?_)
    have hin := h.ord p hp (cN cs (R.getD p 0) j) (mem_csl.2 ⟨j, hj, rfl⟩)
    obtain ⟨q, hq, e⟩ := List.getElem_of_mem hin
    have hq1 : q < p := by simp at hq; omega
    have hq2 : q < R.length := by omega
    have e1 : R.getD q 0 = cN cs (R.getD p 0) j := by
      rw [← e, List.getElem_take]
      simp [List.getD, List.getElem?_eq_getElem hq2]
    show f (cN cs (R.getD p 0) j) = true
    rw [← e1]
    exact ih q hq1 hq2

/-- the row is just the events that link found ready -/
theorem ready_iff (h : RInv n (csl L cs) (Aq ad n) un R) (hs : Snd n ad L cs f) (hf : CloB n ad L cs f) {i : Nat} (hi : i < n) : f i = true ↔ i ∈ R := by
  refine ⟨fun h1 => hs _ (clo_R h) i hi h1, fun h1 => ?_⟩
  obtain ⟨p, hp, e⟩ := List.getElem_of_mem h1
  have := R_clo h hf p hp
  have e1 : R.getD p 0 = i := by rw [← e]; simp [List.getD, List.getElem?_eq_getElem hp]
  rw [e1] at this
  exact this

theorem len_le : ∀ (l l' : List Nat), l.Nodup → (∀ a ∈ l, a ∈ l') → l.length ≤ l'.length
  | [], _, _, _ => Nat.zero_le _
  | a :: l, l', hn, h => by
    rw [List.nodup_cons] at hn
    have ha := h a (List.mem_cons_self)
    have := len_le l (l'.erase a) hn.2 (fun b hb => (List.mem_erase_of_ne (fun (e : b = a) => hn.1 (by rw [← e]; exact hb))).2 (h b (List.mem_cons_of_mem _ hb)))
    rw [List.length_erase_of_mem ha] at this
    have h0 : 0 < l'.length := List.length_pos_of_mem ha
    simp only [List.length_cons]
    omega

theorem ready_count (h : RInv n (csl L cs) (Aq ad n) un R) (hs : Snd n ad L cs f) (hf : CloB n ad L cs f) : R.length = cnt f n := by
  have h1 : ((List.range n).filter f).Nodup := List.nodup_range.filter _
  have hm : ∀ a, a ∈ (List.range n).filter f ↔ a ∈ R := by
    intro a
    rw [List.mem_filter, List.mem_range]
    constructor
    · rintro ⟨h1, h2⟩; exact (ready_iff h hs hf h1).1 h2
    · intro h1; exact ⟨h.lt a h1, (ready_iff h hs hf (h.lt a h1)).2 h1⟩
  have h2 := len_le _ _ h1 (fun a ha => (hm a).1 ha)
  have h3 := len_le _ _ h.nd (fun a ha => (hm a).2 ha)
  unfold cnt
  omega

/-- how many of its first t causes node i waits for -/
def wts (cs : Nat → Nat → Int) (f : Nat → Bool) (i t : Nat) : Nat := cnt (fun j => !f (cN cs i j)) t

theorem wts_succ (i t : Nat) : wts cs f i (t + 1) = wts cs f i t + if f (cN cs i t) then 0 else 1 := by
  unfold wts
  rw [cnt_succ]
  cases f (cN cs i t) <;> simp

theorem wts_le (i t : Nat) : wts cs f i t ≤ t := cnt_le _ _

theorem un_eq (h : RInv n (csl L cs) (Aq ad n) un R) (hs : Snd n ad L cs f) (hf : CloB n ad L cs f) {i : Nat} (hi : i < n) (ha : ad i = true) (hw : ∀ j, j < L i → cN cs i j < n) : un i = (wts cs f i (L i) : Nat) := by
  have hA : Aq ad n i = true := by rw [aq_all hi]; exact ha
  rw [h.cnt i hi hA]
  congr 1
  unfold csl wts cnt
  rw [List.countP_map, List.countP_eq_length_filter]
  congr 1
  apply List.filter_congr
  intro j hj
  rw [List.mem_range] at hj
  have := ready_iff h hs hf (hw j hj)
  show (!decide (cN cs i j ∈ R)) = _
  cases hfc : f (cN cs i j) with
  | true => rw [hfc] at this; simp [this.1 rfl]
  | false => rw [hfc] at this; simp; intro hm; have := this.2 hm; cases this

/-- which were seen among the first j of the row -/
def seenUpto (R : List Nat) (j i : Nat) : Bool := decide (i ∈ R.take j)

theorem seen_succ {j : Nat} (hj : j < R.length) : upd (seenUpto R j) (R.getD j 0) true = seenUpto R (j + 1) := by
  funext i
  unfold seenUpto
  by_cases e : i = R.getD j 0
  · subst e
    rw [upd_same]
    have := (mem_take_succ (c := R.getD j 0) hj).2 (.inr rfl)
    exact (decide_eq_true this).symm
  · rw [upd_other _ _ e, decide_eq_decide, mem_take_succ hj]
    exact ⟨.inl, fun h => h.elim id (fun h => absurd h e)⟩

theorem seen_not (h : R.Nodup) {j : Nat} (hj : j < R.length) : seenUpto R j (R.getD j 0) = false := by
  have := not_mem_take h hj
  exact decide_eq_false this

theorem seen_zero : seenUpto R 0 = fun _ => false := by
  funext i; simp [seenUpto]
end
end Go.Proofs.Qxb6616545a.Mem
