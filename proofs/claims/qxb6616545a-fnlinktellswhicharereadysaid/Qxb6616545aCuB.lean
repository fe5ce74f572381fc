import Derived.Test.Qxb6616545aCuA
/-! the readiness in memory: what the two loops of countUnready keep -/
namespace Go.Proofs.Qxb6616545a.Mem
set_option linter.unusedVariables false
set_option linter.unusedSimpArgs false
open Go.RowKit
open Go.Proofs.Qxb6616545a.Plain

/-- the list of those that cite a node, from the entry p on -/
def Chain (m : Nat) (cd cn : Nat → Int) : Int → List Nat → Prop
  | p, [] => p < 0
  | p, x :: L => ∃ q : Nat, p = (q : Int) ∧ q < m ∧ cd q = (x : Int) ∧ Chain m cd cn (cn q) L

/-- the list of those that cite a node -/
def Deps (m : Nat) (cd cn : Nat → Int) (fi de : Int) : List Nat → Prop
  | [] => fi < 0
  | x :: L => fi = (x : Int) ∧ Chain m cd cn de L

/-- the graph as countUnready meets it: A' holds the events added, the new one with them -/
structure Grph (n : Nat) (cs : Nat → List Nat) (A : Nat → Bool) (g : G) (dl : Nat → List Nat) : Prop where
  en : g.n = n
  dep : ∀ c, c < n → Deps g.m g.cd g.cn (g.fi c) (g.de c) (dl c)
  mem : ∀ c, c < n → ∀ i, i ∈ dl c ↔ i < n ∧ A i = true ∧ c ∈ cs i
  nd : ∀ c, c < n → (dl c).Nodup
  cnd : ∀ i, i < n → A i = true → (cs i).Nodup
  clen : ∀ i, i < n → A i = true → (cs i).length ≤ 1048576

/-- R in memory -/
def rdOf (R : List Nat) : Nat → Int := fun j => (R.getD j 0 : Nat)

theorem rdOf_snoc (R : List Nat) (x : Nat) (j : Nat) (hj : j < R.length + 1) : upd (rdOf R) R.length (x : Int) j = rdOf (R ++ [x]) j := by
  unfold rdOf
  by_cases e : j = R.length
  · subst e
    rw [upd_same]
    simp [List.getD]
  · rw [upd_other _ _ e]
    have : j < R.length := by omega
    simp [List.getD, List.getElem?_append_left this]

/-- the state of the loops -/
structure BMem (w wr : World) (B T : Nat) (v : V) (g : G) (gU cU : Nat) (un : Nat → Int) (R : List Nat) (aR : Option Addr) (cR : Nat) : Prop where
  T : TMem wr B T { v with U := .slice (some ⟨gU, 0, none⟩) g.n cU, R := .slice aR R.length cR } { g with u := g.n, un := un, r := R.length, rd := rdOf R }
  K : MapsKept w wr
  L : Below B w wr

theorem BMem.drew {w wr : World} {B T : Nat} {v : V} {g : G} {gU cU : Nat} {un : Nat → Int} {R : List Nat} {aR : Option Addr} {cR : Nat} (h : BMem w wr B T v g gU cU un R aR cR) : BMem w wr.drew B T v g gU cU un R aR cR :=
  ⟨h.T.drew, h.K.drew, h.L.drew⟩

/-- a count is turned -/
theorem BMem.count {w wr : World} {B T : Nat} {v : V} {g : G} {gU cU : Nat} {un : Nat → Int} {R : List Nat} {aR : Option Addr} {cR : Nat} (h : BMem w wr B T v g gU cU un R aR cR) (i : Nat) (y : Int) :
    BMem w (wr.setCell ⟨gU, i, none⟩ (.int .i32 y)) B T v g gU cU (upd un i y) R aR cR := by
  have hU := h.T.U
  have h1 := h.T.setUnready (gU := gU) (cU := cU) (i := i) rfl y
  refine ⟨h1, h.K.own (x := .slice (some ⟨gU, 0, none⟩) g.n cU) hU (grown_set wr gU i (.int .i32 y)), h.L.setCell ?_ _⟩
  exact (Own.lt hU gU rfl).1

/-- an event is found ready -/
theorem BMem.found {w wr w1 : World} {B T : Nat} {v : V} {g : G} {gU cU : Nat} {un : Nat → Int} {R : List Nat} {aR : Option Addr} {cR : Nat} (h : BMem w wr B T v g gU cU un R aR cR) (o : Obj) (x : Nat) (gR c : Nat)
    (h1 : IntsAt w1 B (.slice (some ⟨gR, 0, none⟩) (R.length + 1) c) (R.length + 1) (upd (rdOf R) R.length (x : Int))) (hg : (wr.alloc o).grownBy w1 (Value.slice aR R.length cR).ownBlock)
    (hl : Lies (wr.alloc o) (.slice (some ⟨gR, 0, none⟩) (R.length + 1) c) (.slice aR R.length cR)) :
    BMem w (w1.setCell ⟨T, 142, none⟩ (.slice (some ⟨gR, 0, none⟩) (R.length + 1) c)) B T v g gU cU un (R ++ [x]) (some ⟨gR, 0, none⟩) c := by
  have hT := h.T.alloc o
  have e1 : IntsAt w1 B (.slice (some ⟨gR, 0, none⟩) (R.length + 1) c) (R.length + 1) (rdOf (R ++ [x])) :=
    Own.congr h1 (fun j hj => by rw [rdOf_snoc R x j (by omega)])
  have h2 := hT.newR hg e1 hl
  have e2 : (R ++ [x]).length = R.length + 1 := by simp
  have r1 : TRow w1 T _ := hT.row.kept hg (Ne.symm (hT.row.ne_own hT.R (by decide)))
  refine ⟨by rw [e2]; exact h2, ((h.K.alloc o).own hT.R hg).field r1 _ _, ?_⟩
  have hb := h.T.lt
  have hbt := h.T.bt
  exact ((h.L.alloc (by omega) o).grown hg (by simp; omega) (own_ge hT.R)).setCell hbt _

theorem BMem.readied {w wr : World} {B T : Nat} {v : V} {g : G} {gU cU : Nat} {un : Nat → Int} {R : List Nat} {aR : Option Addr} {cR : Nat} (h : BMem w wr B T v g gU cU un R aR cR) {p : Nat} (hp : p < R.length) :
    ∃ gR, aR = some ⟨gR, 0, none⟩ ∧ wr.cell? ⟨gR, p, none⟩ = some (.int .i32 ((R.getD p 0 : Nat) : Int)) := by
  have hR : Own wr B 21 1 (.slice aR R.length cR) R.length (fun j => .int .i32 (rdOf R j)) := h.T.R
  obtain ⟨a, c, e, h1, h2⟩ := hR.form
  cases e
  cases aR with
  | none => have := (h1 rfl).1; omega
  | some q =>
    have hq := h2 q rfl
    refine ⟨q.block, by rw [hq], ?_⟩
    rw [hq] at hR
    exact hR.cell (by omega)

/-- what countUnready leaves -/
def CPost (w w' : World) (B T : Nat) (v : V) (g : G) (csl : Nat → List Nat) (A : Nat → Bool) : Prop :=
  ∃ gU cU un R aR cR, BMem w w' B T v g gU cU un R aR cR ∧ RInv g.n csl A un R

/-- the outer loop: the events before p have been gone on from -/
def OutRel (w wr : World) (B T : Nat) (v : V) (g : G) (csl : Nat → List Nat) (A : Nat → Bool) (gU cU p : Nat) (un : Nat → Int) (R : List Nat) (aR : Option Addr) (cR : Nat) : Prop :=
  BMem w wr B T v g gU cU un R aR cR ∧ BInv g.n csl A un R (rel R p 0 [])

/-- the inner loop: u is the event in hand, 'done' of its dependents have been looked at -/
def InRel (w wr : World) (B T : Nat) (v : V) (g : G) (csl : Nat → List Nat) (A : Nat → Bool) (gU cU p u : Nat) (un : Nat → Int) (R : List Nat) (aR : Option Addr) (cR : Nat) (done : List Nat) : Prop :=
  BMem w wr B T v g gU cU un R aR cR ∧ BInv g.n csl A un R (rel R p u done) ∧ p < R.length ∧ R.getD p 0 = u

/-- the inner loop's relation -/
def InLoop (w wr : World) (B T : Nat) (v : V) (g : G) (csl : Nat → List Nat) (A : Nat → Bool) (gU cU p u : Nat) (dl : Nat → List Nat) (gk : Nat) (i c : Value) : Prop :=
  ∃ un R aR cR done, InRel w wr B T v g csl A gU cU p u un R aR cR done ∧
    ((∃ (x : Nat) (L : List Nat) (c0 : Int), dl u = done ++ x :: L ∧ i = .int .i32 (x : Int) ∧ c = .int .i32 c0 ∧ Chain g.m g.cd g.cn c0 L ∧ gk = L.length + 1) ∨
     (∃ i0 c0 : Int, done = dl u ∧ i = .int .i32 i0 ∧ i0 < 0 ∧ c = .int .i32 c0 ∧ gk = 0))

theorem InRel.drew {w wr : World} {B T : Nat} {v : V} {g : G} {csl : Nat → List Nat} {A : Nat → Bool} {gU cU p u : Nat} {un : Nat → Int} {R : List Nat} {aR : Option Addr} {cR : Nat} {done : List Nat}
    (h : InRel w wr B T v g csl A gU cU p u un R aR cR done) : InRel w wr.drew B T v g csl A gU cU p u un R aR cR done := ⟨h.1.drew, h.2⟩

theorem inLoop_start {w wr : World} {B T : Nat} {v : V} {g : G} {csl dl : Nat → List Nat} {A : Nat → Bool} {gU cU p u : Nat} {un : Nat → Int} {R : List Nat} {aR : Option Addr} {cR : Nat}
    (h : InRel w wr B T v g csl A gU cU p u un R aR cR []) (hG : Grph g.n csl A g dl) (hu : u < g.n) : InLoop w wr B T v g csl A gU cU p u dl (dl u).length (.int .i32 (g.fi u)) (.int .i32 (g.de u)) := by
  have hd := hG.dep u hu
  refine ⟨un, R, aR, cR, [], h, ?_⟩
  cases hl : dl u with
  | nil =>
    rw [hl] at hd
    exact .inr ⟨_, _, rfl, rfl, hd, rfl, rfl⟩
  | cons x L =>
    rw [hl] at hd
    obtain ⟨h1, h2⟩ := hd
    exact .inl ⟨x, L, _, rfl, by rw [h1], rfl, h2, rfl⟩

/-- all dependents looked at: on to the next event -/
theorem inRel_next {w wr : World} {B T : Nat} {v : V} {g : G} {csl dl : Nat → List Nat} {A : Nat → Bool} {gU cU p u : Nat} {un : Nat → Int} {R : List Nat} {aR : Option Addr} {cR : Nat} {done : List Nat}
    (h : InRel w wr B T v g csl A gU cU p u un R aR cR done) (hG : Grph g.n csl A g dl) (hu : u < g.n) (hd : done = dl u) : OutRel w wr B T v g csl A gU cU (p + 1) un R aR cR :=
  ⟨h.1, h.2.1.next h.2.2.1 h.2.2.2 (fun i hi hA hc => by rw [hd]; exact (hG.mem u hu i).2 ⟨hi, hA, hc⟩) 0⟩

/-- one dependent: its count goes down by one -/
theorem inRel_count {w wr : World} {B T : Nat} {v : V} {g : G} {csl dl : Nat → List Nat} {A : Nat → Bool} {gU cU p u : Nat} {un : Nat → Int} {R : List Nat} {aR : Option Addr} {cR : Nat} {done L : List Nat} {x : Nat}
    (h : InRel w wr B T v g csl A gU cU p u un R aR cR done) (hG : Grph g.n csl A g dl) (hu : u < g.n) (hd : dl u = done ++ x :: L) :
    x < g.n ∧ 1 ≤ un x ∧ (un x - 1 ≠ 0 → InRel w (wr.setCell ⟨gU, x, none⟩ (.int .i32 (un x - 1))) B T v g csl A gU cU p u (upd un x (un x - 1)) R aR cR (done ++ [x])) ∧
    (un x - 1 = 0 → BInv g.n csl A (upd un x (un x - 1)) (R ++ [x]) (rel (R ++ [x]) p u (done ++ [x])) ∧ p < (R ++ [x]).length ∧ (R ++ [x]).getD p 0 = u) := by
  have hm := (hG.mem u hu x).1 (by rw [hd]; simp)
  have hnd := hG.nd u hu
  rw [hd] at hnd
  have hx : x ∉ done := by
    intro hx
    have := (List.nodup_append.1 hnd).2.2 x hx x (by simp)
    exact this rfl
  obtain ⟨s1, s2, s3⟩ := h.2.1.step (hG.cnd x hm.1 hm.2.1) h.2.2.1 h.2.2.2 hm.1 hm.2.1 hm.2.2 hx
  refine ⟨hm.1, s1, fun e => ⟨h.1.count x _, s2 e, h.2.2.1, h.2.2.2⟩, fun e => ⟨s3 e, by simp; have := h.2.2.1; omega, ?_⟩⟩
  have hp := h.2.2.1
  rw [← h.2.2.2]
  simp [List.getD, List.getElem?_append_left hp]

theorem inRel_small {w wr : World} {B T : Nat} {v : V} {g : G} {csl dl : Nat → List Nat} {A : Nat → Bool} {gU cU p u : Nat} {un : Nat → Int} {R : List Nat} {aR : Option Addr} {cR : Nat} {done L : List Nat} {x : Nat}
    (h : InRel w wr B T v g csl A gU cU p u un R aR cR done) (hG : Grph g.n csl A g dl) (hu : u < g.n) (hd : dl u = done ++ x :: L) : un x ≤ 1048576 := by
  have hm := (hG.mem u hu x).1 (by rw [hd]; simp)
  have h1 := h.2.1.cnt x hm.1 hm.2.1
  have h2 := hG.clen x hm.1 hm.2.1
  have h3 := List.countP_le_length (p := fun c => !rel R p u done c x) (l := csl x)
  omega

theorem TMem.cites_form {w : World} {B T : Nat} {v : V} {g : G} (h : TMem w B T v g) (hm : 0 < g.m) : ∃ gC cC, v.C = .slice (some ⟨gC, 0, none⟩) g.m cC := by
  obtain ⟨F, hO, _⟩ := h.C
  obtain ⟨a, c, e, h1, h2⟩ := hO.form
  cases a with
  | none => have := (h1 rfl).1; omega
  | some p => exact ⟨p.block, c, by rw [e, h2 p rfl]⟩

theorem TMem.cites_cells {w : World} {B T : Nat} {v : V} {g : G} (h : TMem w B T v g) {gC cC : Nat} (e : v.C = .slice (some ⟨gC, 0, none⟩) g.m cC) {q : Nat} (hq : q < g.m) :
    w.cell? ⟨gC, q * 2, none⟩ = some (.int .i32 (g.cd q)) ∧ w.cell? ⟨gC, q * 2 + 1, none⟩ = some (.int .i32 (g.cn q)) := by
  obtain ⟨F, hO, r⟩ := h.C
  obtain ⟨r0, r1⟩ := r q hq
  rw [e] at hO
  exact ⟨by rw [hO.cell (by omega), r0], by rw [hO.cell (by omega), r1]⟩

/-- the loops begin -/
theorem BMem.start {w wc : World} {B T : Nat} {v : V} {g : G} {gU cU : Nat} {un : Nat → Int} {R : List Nat} {aR : Option Addr} {cR : Nat}
    (h : TMem wc B T { v with U := .slice (some ⟨gU, 0, none⟩) g.n cU } { g with u := g.n, un := un }) (hk : MapsKept w wc) (hl : Below B w wc) (hr : g.r = R.length) (hrd : ∀ j, j < R.length → g.rd j = rdOf R j) (eR : v.R = .slice aR g.r cR) :
    BMem w wc B T v g gU cU un R aR cR := by
  have hR := h.R
  have e : IntsAt wc B (.slice aR R.length cR) R.length (rdOf R) := by
    simp only at hR
    rw [eR, hr] at hR
    exact Own.congr hR (fun j hj => by rw [hrd j (by omega)])
  have hlr := h.lr
  have hur := h.ur
  simp only at hlr hur
  rw [eR, hr] at hlr hur
  obtain ⟨F, h1, e1, e2, e3, e4, e5, e6, e7, e8⟩ := h.row
  simp only at e1 e2 e3 e4 e5 e6 e7 e8
  exact ⟨⟨h.bt, ⟨F, h1, e1, e2, e3, e4, e5, e6, e7, by rw [e8, eR, hr]⟩, h.N, h.C, h.L, h.U, e, h.lu, hlr, hur⟩, hk, hl⟩

/-- the counts behind 'grow' still say what waits -/
theorem rinv_grown {n : Nat} {csl : Nat → List Nat} {A : Nat → Bool} {un un' : Nat → Int} {R : List Nat} (h : RInv n csl A un R) (he : un' = un ∨ ∀ i, i < n → A i = false) : RInv n csl A un' R := by
  rcases he with rfl | he
  · exact h
  · have hR : R = [] := by
      cases R with
      | nil => rfl
      | cons a l =>
        have h1 := h.lt a (List.mem_cons_self)
        have h2 := ((h.mem a h1).1 (List.mem_cons_self)).1
        rw [he a h1] at h2
        cases h2
    subst hR
    exact ⟨fun i hi hA => (by rw [he i hi] at hA; cases hA), fun i hi => ⟨fun hm => (by cases hm), fun hm => (by rw [he i hi] at hm; cases hm.1)⟩, h.nd, h.lt, h.ord⟩

theorem waits_eq {n s k : Nat} {csl : Nat → List Nat} {A : Nat → Bool} {un rk : Nat → Int} {R : List Nat} {cs : Nat → Nat} (h : RInv n csl A un R) (hcs : ∀ j, j < k → cs j < n ∧ cs j ≠ s)
    (hrk : ∀ i, i < n → rk i = if upd A s true i then 0 else -2147483648) : waits rk un cs k = ((List.range k).map cs).countP (fun c => !decide (c ∈ R)) := by
  unfold waits cnt
  rw [List.countP_map, List.countP_eq_length_filter]
  congr 1
  apply List.filter_congr
  intro j hj
  have hj' := List.mem_range.1 hj
  obtain ⟨h1, h2⟩ := hcs j hj'
  have h3 := hrk (cs j) h1
  rw [upd_other A true h2] at h3
  have h4 := h.mem (cs j) h1
  cases hA : A (cs j) with
  | false =>
    rw [hA] at h3
    simp only [Bool.false_eq_true, if_false] at h3
    have : cs j ∉ R := fun hm => by have := (h4.1 hm).1; rw [hA] at this; cases this
    simp [h3, this]
  | true =>
    rw [hA] at h3
    simp only [if_true] at h3
    have h5 := h.cnt (cs j) h1 hA
    by_cases hm : cs j ∈ R
    · have := (h4.1 hm).2
      simp [h3, hm, this]
    · have h6 : un (cs j) ≠ 0 := fun e => hm (h4.2 ⟨hA, e⟩)
      have h7 : 0 < un (cs j) := by omega
      simp [h3, hm, h7]

theorem chain_mono {m m' : Nat} {cd cd' cn cn' : Nat → Int} (hm : m ≤ m') (h1 : ∀ q, q < m → cd' q = cd q) (h2 : ∀ q, q < m → cn' q = cn q) : ∀ (L : List Nat) (p : Int), Chain m cd cn p L → Chain m' cd' cn' p L
  | [], p, h => h
  | x :: L, p, h => by
    obtain ⟨q, e, hq, hx, hc⟩ := h
    exact ⟨q, e, by omega, by rw [h1 q hq]; exact hx, by rw [h2 q hq]; exact chain_mono hm h1 h2 L _ hc⟩

end Go.Proofs.Qxb6616545a.Mem
