import Derived.Test.Qxb6616545aGrow
import Derived.Test.Qxb6616545aLkA
import Derived.Test.Qxb6616545aPlain
/-! what the walk of countUnready wants -/
namespace Go.Proofs.Qxb6616545a.Mem
set_option linter.unusedVariables false
set_option linter.unusedSimpArgs false
open Go.RowKit

/-- 'xs[j]' at a slice whose address is known only where it has an element -/
theorem wpList_idx (w : World) {ops : Array Oper} {rest : List Oper} {o : Oper} {a : Act} {Q : Exit → Act → World → Prop} (hg : o.guard = none) (x i : Operand) (t e : TypeId) (ho : o.op = .indexAddr t x i)
    (ht : Try.prog.underlying t = some (.slice e)) (hinfo : (Try.prog.info? e).map (fun i => i.size) = some 1) (ca : Option Addr) (k cap : Nat) (q : IntKind) (j : Nat) (pb po : Nat) (hca : ca = some ⟨pb, po, none⟩)
    (hx : a.eval x = .slice ca k cap) (hi : a.eval i = .int q (j : Int)) (hj : j < k) (h : wpList Try.prog ops Q rest (a.put o.dst (.pointer (some ⟨pb, po + j, none⟩))) w) : wpList Try.prog ops Q (o :: rest) a w := by
  refine wpList_plain hg fun K' hK' => ?_
  subst hca
  obtain ⟨i0, h0, h1⟩ := Option.map_eq_some_iff.1 hinfo
  have he : Try.prog.elem t = e := by simp [Program.elem, ht]
  have hr : (Instr.indexAt t (.slice (some ⟨pb, po, none⟩) k cap) (.int q (j : Int))).run Try.prog w = .ok (.pointer (some ⟨pb, po + j, none⟩)) w := by
    rw [run_indexAt_slice w t _ k cap q (j : Int) (by rw [he]; exact ht), if_pos (by omega), he]
    simp [sizeOf, typeInfo, h0, h1, Addr.add, Result.andThen]
  unfold Oper.wp execOp
  simp only [ho, hx, hi, Sem.run_bind, hr, Result.andThen_ok]
  exact hK' _ _ h

theorem size21 : (Try.prog.info? 21).map (fun i => i.size) = some 1 := by kernel_rfl
theorem size4 : (Try.prog.info? 4).map (fun i => i.size) = some 1 := by kernel_rfl
theorem size31 : (Try.prog.info? 31).map (fun i => i.size) = some 1 := by kernel_rfl

/-- every map is as it was -/
def MapsKept (w w' : World) : Prop := ∀ (b : Nat) (es : Array MapEntry) (c : Nat), w.heap[b]? = some (Obj.map es c) → w'.heap[b]? = some (Obj.map es c)

theorem MapsKept.refl (w : World) : MapsKept w w := fun _ _ _ h => h
theorem MapsKept.trans {a b c : World} (h : MapsKept a b) (h' : MapsKept b c) : MapsKept a c := fun i es cl hi => h' i es cl (h i es cl hi)
theorem MapsKept.grown {a b c : World} {row : Option Nat} (h : MapsKept a b) (hg : b.grownBy c row) (hr : ∀ i, row = some i → ∃ cs t fr, b.heap[i]? = some (.cells cs t fr)) : MapsKept a c := by
  intro i es cl hi
  have h1 := h i es cl hi
  rw [hg.block i (Array.getElem?_eq_some_iff.1 h1).1 ?_]
  · exact h1
  · intro e
    obtain ⟨cs, t, fr, h2⟩ := hr i e.symm
    rw [h1] at h2
    cases h2
theorem MapsKept.own {a b c : World} (h : MapsKept a b) {B : Nat} {e : TypeId} {k n : Nat} {x : Value} {F : Nat → Value} (ho : Own b B e k x n F) (hg : b.grownBy c x.ownBlock) : MapsKept a c := by
  refine h.grown hg (fun i hi => ?_)
  obtain ⟨p, cap, rfl, _, hp⟩ := ho.form
  cases p with
  | none => cases hi
  | some p =>
    obtain ⟨pb, po, ps⟩ := p
    have := hp _ rfl
    simp only [Addr.mk.injEq, true_and] at this
    obtain ⟨rfl, rfl⟩ := this
    cases hi
    obtain ⟨cur, hc⟩ := ho.block
    exact ⟨cur, _, _, hc⟩
theorem MapsKept.field {a b : World} (h : MapsKept a b) {T : Nat} {v : V} (ht : TRow b T v) (i : Nat) (x : Value) : MapsKept a (b.setCell ⟨T, i, none⟩ x) := by
  refine h.grown (grown_set b T i x) (fun j hj => ?_)
  cases hj
  obtain ⟨F', ⟨c', hc, _⟩, _⟩ := ht
  exact ⟨c', _, _, hc⟩
theorem MapsKept.drew {a b : World} (h : MapsKept a b) : MapsKept a b.drew := h
theorem MapsKept.alloc {a b : World} (h : MapsKept a b) (o : Obj) : MapsKept a (b.alloc o) := h.grown (World.grownBy_alloc b o none) (fun i hi => by cases hi)
theorem SetIs.mapsKept {w w' : World} {b N : Nat} {S : Nat → Bool} (h : SetIs w b N S) (hk : MapsKept w w') : SetIs w' b N S := by
  obtain ⟨D, ⟨es, clock, h1, h2⟩, h3⟩ := h
  exact ⟨D, ⟨es, clock, hk b es clock h1, h2⟩, h3⟩
theorem MMem.mapsKept {w w' : World} {B n : Nat} {v v' : V} {hd ms : Nat → Bool} {bH bM : Nat} (h : MMem w B v n hd ms bH bM) (hk : MapsKept w w') (e1 : v'.H = v.H) (e2 : v'.M = v.M) : MMem w' B v' n hd ms bH bM :=
  ⟨e1.trans h.eH, e2.trans h.eM, h.ne, h.lH, h.lM, h.H.mapsKept hk, h.M.mapsKept hk⟩

theorem TMem.unready_form {w : World} {B T : Nat} {v : V} {g : G} (h : TMem w B T v g) : ∃ a c, v.U = .slice a g.u c ∧ (a = none → g.u = 0 ∧ c = 0) := by
  obtain ⟨a, c, e, h1, _⟩ := Own.form h.U
  exact ⟨a, c, e, h1⟩
theorem TMem.readied_form {w : World} {B T : Nat} {v : V} {g : G} (h : TMem w B T v g) : ∃ a c, v.R = .slice a g.r c := by
  obtain ⟨a, c, e, h1, _⟩ := Own.form h.R
  exact ⟨a, c, e⟩

/-- behind 'grow': the counts are as many as the nodes -/
def GrewU (w wd : World) (B T : Nat) (v : V) (g : G) : Prop :=
  ∃ gU cU un', TMem wd B T { v with U := .slice (some ⟨gU, 0, none⟩) g.n cU } { g with u := g.n, un := un' } ∧ (g.u = g.n → un' = g.un) ∧ MapsKept w wd ∧ Below B w wd

theorem grewU_same {w : World} {B T : Nat} {v : V} {g : G} (h : TMem w B T v g) (hu : g.u = g.n) (hn : 0 < g.n) {a : Option Addr} {c : Nat} (e : v.U = .slice a g.u c) : GrewU w (w.setCell ⟨T, 141, none⟩ (.slice a g.n c)) B T v g := by
  have h1 := h.newU (w1 := w) ⟨rfl, rfl, rfl, Nat.le_refl _, fun _ _ _ => rfl⟩ h.U (.inl rfl)
  rw [e, hu] at h1
  obtain ⟨a', c', e', h2, h3⟩ := Own.form h.U
  rw [e] at e'
  cases e'
  cases a with
  | none => have := (h2 rfl).1; omega
  | some p =>
    have := h3 p rfl
    rw [this] at h1 ⊢
    exact ⟨p.block, c, g.un, h1, fun _ => rfl, (MapsKept.refl w).field h.row _ _, (Below.refl B w).setCell h.bt _⟩

theorem grewU_new {w w1 : World} {B T : Nat} {v : V} {g : G} (h : TMem w B T v g) (hu : g.u ≠ g.n) (e : v.U = .slice none 0 0) {c : Nat} (hB : B ≤ w.heap.size)
    (h1 : IntsAt w1 B (.slice (some ⟨w.heap.size, 0, none⟩) g.n c) g.n (fun _ => 0)) (hg : w.grownBy w1 none) : GrewU w (w1.setCell ⟨T, 141, none⟩ (.slice (some ⟨w.heap.size, 0, none⟩) g.n c)) B T v g := by
  have h2 := h.newU (w1 := w1) (by rw [e]; exact hg) h1 (.inr ⟨_, rfl, Nat.le_refl _⟩)
  have hm : MapsKept w w1 := (MapsKept.refl w).grown hg (fun i hi => by cases hi)
  exact ⟨_, _, _, h2, fun hh => absurd hh hu, hm.field (h.row.kept hg (by simp)) _ _, ((Below.refl B w).grown hg hB (fun k hk => by cases hk)).setCell h.bt _⟩

theorem GrewU.drew {w wd : World} {B T : Nat} {v : V} {g : G} (h : GrewU w wd B T v g) : GrewU w wd.drew B T v g := by
  obtain ⟨gU, cU, un', h1, h2, h3, h4⟩ := h
  exact ⟨gU, cU, un', h1.drew, h2, h3.drew, h4.drew⟩

theorem grown_of_drew {w w' : World} {row : Option Nat} (h : w.drew.grownBy w' row) : w.grownBy w' row := ⟨h.os, h.tape, h.output, h.size, h.block⟩

/-- how many of the first j causes are not ready -/
def waits (rk un : Nat → Int) (cs : Nat → Nat) (j : Nat) : Nat := cnt (fun i => decide (rk (cs i) = -2147483648) || decide (0 < un (cs i))) j

theorem waits_le (rk un : Nat → Int) (cs : Nat → Nat) (j : Nat) : waits rk un cs j ≤ j := cnt_le _ _
theorem waits_yes {rk un : Nat → Int} {cs : Nat → Nat} {j : Nat} (h : rk (cs j) = -2147483648 ∨ 0 < un (cs j)) : waits rk un cs (j + 1) = waits rk un cs j + 1 := by
  unfold waits
  rw [cnt_succ, if_pos (by rcases h with h | h <;> simp [h])]
theorem waits_no {rk un : Nat → Int} {cs : Nat → Nat} {j : Nat} (h1 : rk (cs j) ≠ -2147483648) (h2 : un (cs j) ≤ 0) : waits rk un cs (j + 1) = waits rk un cs j := by
  unfold waits
  rw [cnt_succ, if_neg (by simp [h1]; omega)]; omega

end Go.Proofs.Qxb6616545a.Mem
