import Derived.Test.Qxb6616545aLkB
import Derived.Test.Qxb6616545aWfA
/-! WHAT link KEEPS, IN PLAIN NUMBERS: no Go in sight. -/
namespace Go.Proofs.Qxb6616545a.Mem
set_option linter.unusedVariables false
set_option linter.unusedSimpArgs false
open Go.Proofs.Qxb6616545a.Plain

/-- node i is below q and added -/
def Aq (ad : Nat → Bool) (q i : Nat) : Bool := decide (i < q) && ad i
/-- the causes of node i as numbers -/
def cN (cs : Nat → Nat → Int) (i j : Nat) : Nat := (cs i j).toNat
def csl (L : Nat → Nat) (cs : Nat → Nat → Int) (i : Nat) : List Nat := (List.range (L i)).map (cN cs i)

theorem Aq_no {ad : Nat → Bool} {q : Nat} (h : ad q = false) : Aq ad (q + 1) = Aq ad q := by
  funext i
  unfold Aq
  by_cases e : i = q
  · subst e; simp [h]
  · have : decide (i < q + 1) = decide (i < q) := by
      rw [decide_eq_decide]; omega
    rw [this]

theorem Aq_yes {ad : Nat → Bool} {q : Nat} (h : ad q = true) : upd (Aq ad q) q true = Aq ad (q + 1) := by
  funext i
  by_cases e : i = q
  · subst e; rw [upd_same]; simp [Aq, h]
  · rw [upd_other _ _ e]
    unfold Aq
    have : decide (i < q + 1) = decide (i < q) := by
      rw [decide_eq_decide]; omega
    rw [this]

theorem Aq_self (ad : Nat → Bool) (q : Nat) : Aq ad q q = false := by simp [Aq]

structure JInv (n q : Nat) (ad : Nat → Bool) (L : Nat → Nat) (cs : Nat → Nat → Int) (g : G) (dl : Nat → List Nat) (R : List Nat) : Prop where
  en : g.n = n
  rk : ∀ i, i < n → g.rk i = if Aq ad q i then 0 else -2147483648
  gr : Grph n (csl L cs) (Aq ad q) g dl
  nde : ∀ c, c < n → dl c = [] → g.de c < 0
  ri : RInv n (csl L cs) (Aq ad q) g.un R
  r : g.r = R.length
  rd : ∀ j, j < R.length → g.rd j = rdOf R j
  m : g.m ≤ sumL L q
  l : g.l ≤ q + sumL L q
  hd : ∀ i, i < n → g.hd i = (Aq ad q i && decide (g.fi i < 0))
  ms : ∀ i, i < n → g.ms i = (!Aq ad q i && decide (0 ≤ g.fi i))
  u : g.u = n ∨ ∀ i, i < n → Aq ad q i = false

def addDep (q : Nat) : List Nat → List Nat
  | [] => [q]
  | x :: l => x :: q :: l

theorem mem_addDep {q i : Nat} {l : List Nat} : i ∈ addDep q l ↔ i ∈ l ∨ i = q := by
  cases l with
  | nil => simp [addDep]
  | cons x l =>
    simp only [addDep, List.mem_cons]
    constructor
    · rintro (h | h | h)
      · exact .inl (.inl h)
      · exact .inr h
      · exact .inl (.inr h)
    · rintro ((h | h) | h)
      · exact .inl h
      · exact .inr (.inr h)
      · exact .inr (.inl h)

theorem nodup_addDep {q : Nat} {l : List Nat} (h : l.Nodup) (hq : q ∉ l) : (addDep q l).Nodup := by
  cases l with
  | nil => simp [addDep]
  | cons x l =>
    simp only [List.mem_cons, not_or] at hq
    rw [List.nodup_cons] at h
    simp only [addDep, List.nodup_cons, List.mem_cons, not_or]
    exact ⟨⟨fun e => hq.1 e.symm, h.1⟩, hq.2, h.2⟩

/-- who cites each node, behind the first j causes of q -/
def dlj (q : Nat) (c : Nat → Nat) (dl : Nat → List Nat) : Nat → Nat → List Nat
  | 0 => dl
  | j + 1 => upd (dlj q c dl j) (c j) (addDep q (dlj q c dl j (c j)))

theorem mem_dlj (q : Nat) (c : Nat → Nat) (dl : Nat → List Nat) (i x : Nat) : ∀ j, i ∈ dlj q c dl j x ↔ i ∈ dl x ∨ (i = q ∧ ∃ t, t < j ∧ c t = x)
  | 0 => ⟨fun h => .inl h, fun h => h.elim id (fun ⟨_, t, ht, _⟩ => by omega)⟩
  | j + 1 => by
    have ih := mem_dlj q c dl i x j
    show i ∈ upd (dlj q c dl j) (c j) (addDep q (dlj q c dl j (c j))) x ↔ _
    by_cases e : x = c j
    · subst e
      rw [upd_same, mem_addDep, ih]
      constructor
      · rintro ((h | ⟨h, t, ht, hc⟩) | h)
        · exact .inl h
        · exact .inr ⟨h, t, by omega, hc⟩
        · exact .inr ⟨h, j, by omega, rfl⟩
      · rintro (h | ⟨h, _⟩)
        · exact .inl (.inl h)
        · exact .inr h
    · rw [upd_other _ _ e, ih]
      constructor
      · rintro (h | ⟨h, t, ht, hc⟩)
        · exact .inl h
        · exact .inr ⟨h, t, by omega, hc⟩
      · rintro (h | ⟨h, t, ht, hc⟩)
        · exact .inl h
        · refine .inr ⟨h, t, ?_, hc⟩
          have : t ≠ j := fun h => e (by rw [← hc, h])
          omega

theorem nodup_dlj (q k : Nat) (c : Nat → Nat) (dl : Nat → List Nat) (hn : ∀ x, (∃ t, t < k ∧ c t = x) → (dl x).Nodup ∧ q ∉ dl x) (hinj : ∀ t t', t < k → t' < k → c t = c t' → t = t') (x : Nat) (hx : (dl x).Nodup) : ∀ j, j ≤ k → (dlj q c dl j x).Nodup
  | 0, _ => hx
  | j + 1, hj => by
    have ih := nodup_dlj q k c dl hn hinj x hx j (by omega)
    show (upd (dlj q c dl j) (c j) (addDep q (dlj q c dl j (c j))) x).Nodup
    by_cases e : x = c j
    · subst e
      rw [upd_same]
      refine nodup_addDep ih ?_
      rw [mem_dlj]
      rintro (h | ⟨_, t, ht, hc⟩)
      · exact (hn (c j) ⟨j, by omega, rfl⟩).2 h
      · have := hinj t j (by omega) (by omega) hc
        omega
    · rw [upd_other _ _ e]
      exact ih

/-- what the loop of link keeps -/
structure LInv (n : Nat) (A : Nat → Bool) (g : G) (D : Nat → List Nat) : Prop where
  rk : ∀ i, i < n → g.rk i = if A i then 0 else -2147483648
  dep : ∀ i, i < n → Deps g.m g.cd g.cn (g.fi i) (g.de i) (D i)
  nde : ∀ i, i < n → D i = [] → g.de i < 0
  hd : ∀ i, i < n → g.hd i = (A i && decide (g.fi i < 0))
  ms : ∀ i, i < n → g.ms i = (!A i && decide (0 ≤ g.fi i))

theorem deps_mono {m m' : Nat} {cd cd' cn cn' : Nat → Int} (hm : m ≤ m') (h1 : ∀ q, q < m → cd' q = cd q) (h2 : ∀ q, q < m → cn' q = cn q) {fi de : Int} : ∀ {l : List Nat}, Deps m cd cn fi de l → Deps m' cd' cn' fi de l
  | [], h => h
  | _ :: l, h => ⟨h.1, chain_mono hm h1 h2 l _ h.2⟩

theorem LInv.step {n q : Nat} {A : Nat → Bool} {g : G} {D : Nat → List Nat} (h : LInv n A g D) {c : Nat} (hc : c < n) : LInv n A (linkStep q g c) (upd D c (addDep q (D c))) := by
  have hrk := h.rk c hc
  have hdep := h.dep c hc
  have e1 : (if g.rk c ≠ -2147483648 ∧ g.fi c < 0 then upd g.hd c false else g.hd) = fun i => if i = c then (A c && decide (g.fi c < 0) && decide (0 ≤ g.fi c)) else g.hd i := by
    funext i
    have hh := h.hd c hc
    by_cases hi : i = c
    · subst hi
      cases hA : A i with
      | true =>
        rw [hA] at hrk hh
        simp only [if_true] at hrk
        by_cases hf : g.fi i < 0
        · have : ¬ 0 ≤ g.fi i := by omega
          simp [hrk, hf, upd]
        · simp [hf, hh]
      | false =>
        rw [hA] at hrk hh
        simp only [Bool.false_eq_true, if_false] at hrk
        simp [hrk, hh]
    · split
      · simp [upd, hi]
      · simp [hi]
  have e2 : (if g.rk c = -2147483648 then upd g.ms c true else g.ms) = fun i => if i = c then !A c else g.ms i := by
    funext i
    have hh := h.ms c hc
    by_cases hi : i = c
    · subst hi
      cases hA : A i with
      | true =>
        rw [hA] at hrk hh
        simp only [if_true] at hrk
        simp [hrk, hh]
      | false =>
        rw [hA] at hrk
        simp only [Bool.false_eq_true, if_false] at hrk
        simp [hrk, upd]
    · split
      · simp [upd, hi]
      · simp [hi]
  unfold linkStep halfStep restStep
  simp only [e1, e2]
  by_cases hf : g.fi c < 0
  · rw [if_pos hf]
    have hD : D c = [] := by
      cases hl : D c with
      | nil => rfl
      | cons x l => rw [hl] at hdep; have := hdep.1; omega
    refine ⟨h.rk, fun i hi => ?_, fun i hi hz => ?_, fun i hi => ?_, fun i hi => ?_⟩
    · by_cases e : i = c
      · subst e
        rw [upd_same, hD]
        simp only [upd_same]
        exact ⟨rfl, h.nde i hi hD⟩
      · simp only [upd_other _ _ e]
        exact h.dep i hi
    · by_cases e : i = c
      · subst e
        rw [upd_same, hD] at hz
        cases hz
      · rw [upd_other _ _ e] at hz
        exact h.nde i hi hz
    · by_cases e : i = c
      · subst e
        have h1 : ¬ 0 ≤ g.fi i := by omega
        have h2 : ¬ ((q : Nat) : Int) < 0 := by omega
        simp [upd_same, h1, h2]
      · simp only [upd_other _ _ e, if_neg e]
        exact h.hd i hi
    · by_cases e : i = c
      · subst e
        have h2 : 0 ≤ ((q : Nat) : Int) := by omega
        simp [upd_same, h2]
      · simp only [upd_other _ _ e, if_neg e]
        exact h.ms i hi
  · rw [if_neg hf]
    obtain ⟨x, l, hD⟩ : ∃ x l, D c = x :: l := by
      cases hl : D c with
      | nil => rw [hl] at hdep; exact absurd hdep hf
      | cons x l => exact ⟨x, l, rfl⟩
    have hm1 : ∀ p, p < g.m → upd g.cd g.m (q : Int) p = g.cd p := fun p hp => upd_other _ _ (by omega)
    have hm2 : ∀ p, p < g.m → upd g.cn g.m (g.de c) p = g.cn p := fun p hp => upd_other _ _ (by omega)
    refine ⟨h.rk, fun i hi => ?_, fun i hi hz => ?_, fun i hi => ?_, fun i hi => ?_⟩
    · by_cases e : i = c
      · subst e
        rw [hD] at hdep
        rw [upd_same, hD]
        simp only [upd_same]
        refine ⟨hdep.1, g.m, rfl, by simp, by simp [upd_same], ?_⟩
        rw [upd_same]
        exact chain_mono (by simp) hm1 hm2 l _ hdep.2
      · simp only [upd_other _ _ e]
        exact deps_mono (by simp) hm1 hm2 (h.dep i hi)
    · by_cases e : i = c
      · subst e
        rw [upd_same, hD] at hz
        cases hz
      · rw [upd_other _ _ e] at hz
        simp only [upd_other _ _ e]
        exact h.nde i hi hz
    · by_cases e : i = c
      · subst e
        have h1 : ¬ g.fi i < 0 := hf
        simp [h1]
      · simp only [if_neg e]
        exact h.hd i hi
    · by_cases e : i = c
      · subst e
        have h1 : 0 ≤ g.fi i := by omega
        simp [h1]
      · simp only [if_neg e]
        exact h.ms i hi

theorem LInv.all {n q k : Nat} {A : Nat → Bool} {g : G} {dl : Nat → List Nat} {c : Nat → Nat} (h : LInv n A g dl) (hc : ∀ j, j < k → c j < n) : ∀ j, j ≤ k → LInv n A (lk q c j g) (dlj q c dl j)
  | 0, _ => h
  | j + 1, hj => (LInv.all h hc j (by omega)).step (hc j (by omega))

theorem cN_ok {n : Nat} {cs : Nat → Nat → Int} {i t : Nat} {Li : Nat} (h : RowOK n cs i Li) (ht : t < Li) : (cN cs i t : Int) = cs i t ∧ cN cs i t < n ∧ cN cs i t ≠ i := by
  obtain ⟨h1, h2, h3, _⟩ := h t ht
  unfold cN
  refine ⟨by omega, by omega, fun e => h3 (by omega)⟩

theorem cN_mono {n : Nat} {cs : Nat → Nat → Int} {i : Nat} {Li : Nat} (h : RowOK n cs i Li) : ∀ d t, t + d + 1 < Li → cs i t < cs i (t + d + 1)
  | 0, t, ht => by have := (h (t + 1) (by omega)).2.2.2 (by omega); simpa using this
  | d + 1, t, ht => by
    have h1 := cN_mono h d t (by omega)
    have h2 := (h (t + d + 2) (by omega)).2.2.2 (by omega)
    have e : t + (d + 1) + 1 = t + d + 2 := by omega
    have e2 : t + d + 2 - 1 = t + d + 1 := by omega
    rw [e2] at h2
    rw [e]
    omega

theorem cN_inj {n : Nat} {cs : Nat → Nat → Int} {i : Nat} {Li : Nat} (h : RowOK n cs i Li) {t t' : Nat} (ht : t < Li) (ht' : t' < Li) (e : cN cs i t = cN cs i t') : t = t' := by
  have e1 := (cN_ok h ht).1
  have e2 := (cN_ok h ht').1
  rcases Nat.lt_trichotomy t t' with hh | hh | hh
  · have := cN_mono h (t' - t - 1) t (by omega)
    have e3 : t + (t' - t - 1) + 1 = t' := by omega
    rw [e3] at this
    omega
  · exact hh
  · have := cN_mono h (t - t' - 1) t' (by omega)
    have e3 : t' + (t - t' - 1) + 1 = t := by omega
    rw [e3] at this
    omega

theorem csl_nodup {n : Nat} {L : Nat → Nat} {cs : Nat → Nat → Int} {i : Nat} (h : RowOK n cs i (L i)) : (csl L cs i).Nodup := by
  unfold csl
  rw [List.Nodup, List.pairwise_map, List.pairwise_iff_getElem]
  intro a b ha hb hab
  simp only [List.length_range] at ha hb
  simp only [List.getElem_range]
  intro e
  have := cN_inj h ha hb e
  omega

theorem mem_csl {L : Nat → Nat} {cs : Nat → Nat → Int} {i x : Nat} : x ∈ csl L cs i ↔ ∃ t, t < L i ∧ cN cs i t = x := by
  unfold csl
  rw [List.mem_map]
  constructor
  · rintro ⟨t, ht, e⟩; exact ⟨t, List.mem_range.1 ht, e⟩
  · rintro ⟨t, ht, e⟩; exact ⟨t, List.mem_range.2 ht, e⟩

theorem JInv.skip {n q : Nat} {ad : Nat → Bool} {L : Nat → Nat} {cs : Nat → Nat → Int} {g : G} {dl : Nat → List Nat} {R : List Nat} (h : JInv n q ad L cs g dl R) (ha : ad q = false) : JInv n (q + 1) ad L cs g dl R := by
  have e := Aq_no ha
  have hs : sumL L (q + 1) = sumL L q + L q := rfl
  have hm := h.m
  have hl := h.l
  exact ⟨h.en, by rw [e]; exact h.rk, by rw [e]; exact h.gr, h.nde, by rw [e]; exact h.ri, h.r, h.rd, by omega, by omega, by rw [e]; exact h.hd, by rw [e]; exact h.ms, by rw [e]; exact h.u⟩

/-- the ghost behind setAdded -/
def gAdd (g : G) (q : Nat) : G := { g with rk := upd g.rk q 0 }

/-- the ghost behind link's loop -/
def gLink (L : Nat → Nat) (cs : Nat → Nat → Int) (g : G) (q : Nat) : G := lk q (cN cs q) (L q) (linkHead q (L q) (gAdd g q))

theorem JInv.linv {n q : Nat} {ad : Nat → Bool} {L : Nat → Nat} {cs : Nat → Nat → Int} {g : G} {dl : Nat → List Nat} {R : List Nat} (h : JInv n q ad L cs g dl R) (hq : q < n) (ha : ad q = true) (hw : RowOK n cs q (L q)) :
    LInv n (Aq ad (q + 1)) (gLink L cs g q) (dlj q (cN cs q) dl (L q)) := by
  have e := Aq_yes ha
  refine LInv.all (n := n) (k := L q) ?_ (fun j hj => (cN_ok hw hj).2.1) (L q) (Nat.le_refl _)
  rw [← e]
  refine ⟨fun i hi => ?_, h.gr.dep, h.nde, fun i hi => ?_, fun i hi => ?_⟩
  · show upd g.rk q 0 i = _
    by_cases ei : i = q
    · subst ei; rw [upd_same, upd_same]; rfl
    · rw [upd_other _ _ ei, upd_other _ _ ei]; exact h.rk i hi
  · show (if g.fi q < 0 then upd g.hd q true else g.hd) i = (upd (Aq ad q) q true i && decide (g.fi i < 0))
    have hh := h.hd i hi
    by_cases ei : i = q
    · subst ei
      rw [upd_same]
      rw [Aq_self] at hh
      by_cases hf : g.fi i < 0
      · simp [hf, upd]
      · simp [hf, hh]
    · rw [upd_other _ _ ei, ← hh]
      split
      · exact upd_other _ _ ei
      · rfl
  · show upd g.ms q false i = (!upd (Aq ad q) q true i && decide (0 ≤ g.fi i))
    by_cases ei : i = q
    · subst ei; simp [upd_same]
    · rw [upd_other _ _ ei, upd_other _ _ ei]; exact h.ms i hi

theorem JInv.grph {n q : Nat} {ad : Nat → Bool} {L : Nat → Nat} {cs : Nat → Nat → Int} {g : G} {dl : Nat → List Nat} {R : List Nat} (h : JInv n q ad L cs g dl R) (hq : q < n) (ha : ad q = true) (hw : RowOK n cs q (L q)) (hL : L q ≤ 1048576) :
    Grph n (csl L cs) (Aq ad (q + 1)) (gLink L cs g q) (dlj q (cN cs q) dl (L q)) := by
  have hl := h.linv hq ha hw
  have en : (gLink L cs g q).n = n := (lk_same q (cN cs q) (linkHead q (L q) (gAdd g q)) (L q)).1.trans h.en
  have hnq : ∀ x, x < n → q ∉ dl x := fun x hx hm => by
    have := ((h.gr.mem x hx q).1 hm).2.1
    rw [Aq_self] at this
    cases this
  have hAq : ∀ i, Aq ad (q + 1) i = true ↔ Aq ad q i = true ∨ i = q := by
    intro i
    rw [← Aq_yes ha]
    by_cases ei : i = q
    · subst ei; simp [upd_same]
    · rw [upd_other _ _ ei]; simp [ei]
  refine ⟨en, hl.dep, fun x hx i => ?_, fun x hx => ?_, fun i hi hA => ?_, fun i hi hA => ?_⟩
  · rw [mem_dlj, h.gr.mem x hx i, hAq i]
    constructor
    · rintro (⟨h1, h2, h3⟩ | ⟨rfl, t, ht, hc⟩)
      · exact ⟨h1, .inl h2, h3⟩
      · exact ⟨hq, .inr rfl, mem_csl.2 ⟨t, ht, hc⟩⟩
    · rintro ⟨h1, h2 | h2, h3⟩
      · exact .inl ⟨h1, h2, h3⟩
      · subst h2
        exact .inr ⟨rfl, mem_csl.1 h3⟩
  · refine nodup_dlj q (L q) (cN cs q) dl ?_ (fun t t' ht ht' e => cN_inj hw ht ht' e) x (h.gr.nd x hx) (L q) (Nat.le_refl _)
    rintro y ⟨t, ht, rfl⟩
    have hy := (cN_ok hw ht).2.1
    exact ⟨h.gr.nd _ hy, hnq _ hy⟩
  · rcases (hAq i).1 hA with h1 | h1
    · exact h.gr.cnd i hi h1
    · subst h1; exact csl_nodup hw
  · rcases (hAq i).1 hA with h1 | h1
    · exact h.gr.clen i hi h1
    · subst h1; simp [csl]; exact hL

/-- behind link -/
theorem JInv.next {n q : Nat} {ad : Nat → Bool} {L : Nat → Nat} {cs : Nat → Nat → Int} {g : G} {dl : Nat → List Nat} {R R' : List Nat} {un' : Nat → Int} (h : JInv n q ad L cs g dl R) (hq : q < n) (ha : ad q = true) (hw : RowOK n cs q (L q)) (hL : L q ≤ 1048576)
    (hR : RInv n (csl L cs) (Aq ad (q + 1)) un' R') :
    JInv n (q + 1) ad L cs { gLink L cs g q with n := n, u := n, un := un', r := R'.length, rd := rdOf R' } (dlj q (cN cs q) dl (L q)) R' := by
  have hl := h.linv hq ha hw
  have hg := h.grph hq ha hw hL
  obtain ⟨s1, s2, s3, s4, s5, s6, s7, s8⟩ := lk_same q (cN cs q) (linkHead q (L q) (gAdd g q)) (L q)
  have hs : sumL L (q + 1) = sumL L q + L q := rfl
  have hm := h.m
  have hll := h.l
  have s8' : (gLink L cs g q).m ≤ g.m + L q := s8
  have s7' : (gLink L cs g q).l = g.l + 1 + L q := s7
  refine ⟨rfl, hl.rk, ⟨rfl, hg.dep, hg.mem, hg.nd, hg.cnd, hg.clen⟩, hl.nde, hR, rfl, fun _ _ => rfl, ?_, ?_, hl.hd, hl.ms, .inl rfl⟩
  · show (gLink L cs g q).m ≤ _
    omega
  · show (gLink L cs g q).l ≤ _
    omega

/-- at the start -/
theorem JInv.start (n : Nat) (ad : Nat → Bool) (L : Nat → Nat) (cs : Nat → Nat → Int) (g : G) (e : g = { n := n, rk := fun _ => -2147483648, fi := fun _ => -1, de := fun _ => -1, m := 0, cd := fun _ => 0, cn := fun _ => 0, l := 0, u := 0, un := fun _ => 0, r := 0, rd := fun _ => 0, hd := fun _ => false, ms := fun _ => false }) :
    JInv n 0 ad L cs g (fun _ => []) [] := by
  subst e
  have hA : ∀ i, Aq ad 0 i = false := fun i => by simp [Aq]
  refine ⟨rfl, fun i _ => by rw [hA]; rfl, ⟨rfl, fun _ _ => by show (-1 : Int) < 0; omega, fun x _ i => ⟨fun h => (by cases h), fun h => (by rw [hA] at h; cases h.2.1)⟩, fun _ _ => List.nodup_nil, fun i _ h => (by rw [hA] at h; cases h), fun i _ h => (by rw [hA] at h; cases h)⟩,
    fun _ _ _ => by show (-1 : Int) < 0; omega, ⟨fun i _ h => (by rw [hA] at h; cases h), fun i _ => ⟨fun h => (by cases h), fun h => (by rw [hA] at h; cases h.1)⟩, List.nodup_nil, fun i h => (by cases h), fun p hp => by simp at hp⟩,
    rfl, fun j hj => by simp at hj, by simp, by simp, fun i _ => by rw [hA]; rfl, fun i _ => by rw [hA]; simp, .inr (fun i _ => hA i)⟩

end Go.Proofs.Qxb6616545a.Mem
