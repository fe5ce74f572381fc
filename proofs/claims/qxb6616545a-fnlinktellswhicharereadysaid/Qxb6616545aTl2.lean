import Derived.Test.Qxb6616545aTl
/-! WHAT EACH WRITE DOES TO THE TIMELINE IN MEMORY. -/
namespace Go.Proofs.Qxb6616545a.Mem
set_option linter.unusedVariables false
set_option linter.unusedSimpArgs false
open Go.RowKit

/-- a write into 'row' does not touch the slice x -/
def Off (x : Value) (row : Option Nat) : Prop := x.ownBlock = none ∨ x.ownBlock ≠ row

section
variable {w w' w1 : World} {B T : Nat} {v : V} {g : G} {row : Option Nat}

theorem off_none (x : Value) : Off x none := by
  unfold Off
  cases h : x.ownBlock with
  | none => exact .inl rfl
  | some b => exact .inr (by simp)

theorem Apart.off {x x' : Value} (h : Apart x x') : Off x' x.ownBlock := by
  unfold Off
  cases h' : x.ownBlock with
  | none => exact off_none x'
  | some b => exact .inr (h b h')

theorem off_some {x : Value} {b : Nat} (h : x.ownBlock ≠ some b) : Off x (some b) := .inr h

theorem NodesAt.kept {x : Value} {n : Nat} {rk fi de : Nat → Int} (h : NodesAt w B x n rk fi de) (hg : w.grownBy w' row) (ho : Off x row) : NodesAt w' B x n rk fi de := by
  obtain ⟨F, h, r⟩ := h
  exact ⟨F, h.kept hg ho, r⟩
theorem CitesAt.kept {x : Value} {m : Nat} {cd cn : Nat → Int} (h : CitesAt w B x m cd cn) (hg : w.grownBy w' row) (ho : Off x row) : CitesAt w' B x m cd cn := by
  obtain ⟨F, h, r⟩ := h
  exact ⟨F, h.kept hg ho, r⟩
theorem RowAt.kept {x : Value} {n : Nat} (h : RowAt w B x n) (hg : w.grownBy w' row) (ho : Off x row) : RowAt w' B x n := by
  obtain ⟨F, h⟩ := h
  exact ⟨F, h.kept hg ho⟩
theorem IntsAt.kept {x : Value} {n : Nat} {f : Nat → Int} (h : IntsAt w B x n f) (hg : w.grownBy w' row) (ho : Off x row) : IntsAt w' B x n f := Own.kept h hg ho

theorem TMem.kept (h : TMem w B T v g) (hg : w.grownBy w' row) (hT : some T ≠ row) (oN : Off v.N row) (oC : Off v.C row) (oL : Off v.L row) (oU : Off v.U row) (oR : Off v.R row) : TMem w' B T v g :=
  ⟨h.bt, h.row.kept hg hT, h.N.kept hg oN, h.C.kept hg oC, h.L.kept hg oL, h.U.kept hg oU, h.R.kept hg oR, h.lu, h.lr, h.ur⟩

theorem TMem.fresh (h : TMem w B T v g) (hg : w.grownBy w' none) : TMem w' B T v g :=
  h.kept hg (by simp) (off_none _) (off_none _) (off_none _) (off_none _) (off_none _)

theorem TMem.drew (h : TMem w B T v g) : TMem w.drew B T v g :=
  h.fresh ⟨rfl, rfl, rfl, Nat.le_refl _, fun _ _ _ => rfl⟩

theorem TMem.alloc (h : TMem w B T v g) (o : Obj) : TMem (w.alloc o) B T v g := h.fresh (World.grownBy_alloc w o none)

theorem TMem.lt (h : TMem w B T v g) : T < w.heap.size := h.row.lt

theorem TMem.kept_map (h : TMem w B T v g) {b N : Nat} {S : Nat → Bool} (hs : SetIs w b N S) (hg : w.grownBy w' (some b)) : TMem w' B T v g := by
  obtain ⟨_, hN, _⟩ := h.N
  obtain ⟨_, hC, _⟩ := h.C
  obtain ⟨_, hL⟩ := h.L
  exact h.kept hg (fun e => hs.ne_row h.row (by simpa using e.symm)) (off_some (hs.ne_own hN)) (off_some (hs.ne_own hC)) (off_some (hs.ne_own hL)) (off_some (hs.ne_own h.U)) (off_some (hs.ne_own h.R))

/-! ### the maps -/
variable {n : Nat} {hd ms : Nat → Bool} {bH bM : Nat}
theorem MMem.kept (h : MMem w B v n hd ms bH bM) (hg : w.grownBy w' row) (h1 : some bH ≠ row) (h2 : some bM ≠ row) : MMem w' B v n hd ms bH bM :=
  ⟨h.eH, h.eM, h.ne, h.lH, h.lM, h.H.kept hg h1, h.M.kept hg h2⟩
theorem MMem.fresh (h : MMem w B v n hd ms bH bM) (hg : w.grownBy w' none) : MMem w' B v n hd ms bH bM := h.kept hg (by simp) (by simp)
theorem MMem.alloc (h : MMem w B v n hd ms bH bM) (o : Obj) : MMem (w.alloc o) B v n hd ms bH bM := h.fresh (World.grownBy_alloc w o none)
theorem MMem.drew (h : MMem w B v n hd ms bH bM) : MMem w.drew B v n hd ms bH bM := h.fresh ⟨rfl, rfl, rfl, Nat.le_refl _, fun _ _ _ => rfl⟩
theorem MMem.heads {hd' : Nat → Bool} (h : MMem w B v n hd ms bH bM) (hs : SetIs w' bH n hd') (hg : w.grownBy w' (some bH)) : MMem w' B v n hd' ms bH bM :=
  ⟨h.eH, h.eM, h.ne, h.lH, h.lM, hs, h.M.kept hg (fun e => h.ne (by simpa using e.symm))⟩
theorem MMem.missing {ms' : Nat → Bool} (h : MMem w B v n hd ms bH bM) (hs : SetIs w' bM n ms') (hg : w.grownBy w' (some bM)) : MMem w' B v n hd ms' bH bM :=
  ⟨h.eH, h.eM, h.ne, h.lH, h.lM, h.H.kept hg (fun e => h.ne (by simpa using e)), hs⟩
/-- the fields' values other than the two maps do not matter -/
theorem MMem.vals {v' : V} (h : MMem w B v n hd ms bH bM) (e1 : v'.H = v.H) (e2 : v'.M = v.M) : MMem w B v' n hd ms bH bM :=
  ⟨e1.trans h.eH, e2.trans h.eM, h.ne, h.lH, h.lM, h.H, h.M⟩
/-- a row's write does not touch the maps -/
theorem MMem.row_kept (h : MMem w B v n hd ms bH bM) {e : TypeId} {k : Nat} {x : Value} {n' : Nat} {F : Nat → Value} (ho : Own w B e k x n' F) (hg : w.grownBy w' x.ownBlock) : MMem w' B v n hd ms bH bM :=
  h.kept hg (Ne.symm (h.H.ne_own ho)) (Ne.symm (h.M.ne_own ho))
theorem MMem.field_kept (h : MMem w B v n hd ms bH bM) (ht : TRow w T v) (i : Nat) (x : Value) : MMem (w.setCell ⟨T, i, none⟩ x) B v n hd ms bH bM :=
  h.kept (grown_set w T i x) (by have := h.H.ne_row ht; simp [this]) (by have := h.M.ne_row ht; simp [this])

/-! ### a node's fields -/
theorem node_blk (a : Addr) (c : Nat) (k : Nat) : (Value.slice (some a) k c).ownBlock = some a.block := rfl

theorem TMem.nodeWrite (h : TMem w B T v g) {gN cN : Nat} (e : v.N = .slice (some ⟨gN, 0, none⟩) g.n cN) (j : Nat) (x : Value) (g' : G)
    (hN : NodesAt (w.setCell ⟨gN, j, none⟩ x) B v.N g.n g'.rk g'.fi g'.de) (en : g'.n = g.n) (em : g'.m = g.m) (ecd : g'.cd = g.cd) (ecn : g'.cn = g.cn) (el : g'.l = g.l) (eu : g'.u = g.u) (eun : g'.un = g.un) (er : g'.r = g.r) (erd : g'.rd = g.rd) :
    TMem (w.setCell ⟨gN, j, none⟩ x) B T v g' := by
  have hg := grown_set w gN j x
  obtain ⟨F, hO, _⟩ := h.N
  obtain ⟨_, hC, _⟩ := h.C
  obtain ⟨_, hL⟩ := h.L
  have hb : v.N.ownBlock = some gN := by rw [e]; rfl
  have aC : Off v.C (some gN) := by rw [← hb]; exact (hO.ne_own hC (by decide)).off
  have aL : Off v.L (some gN) := by rw [← hb]; exact (hO.ne_own hL (by decide)).off
  have aU : Off v.U (some gN) := by rw [← hb]; exact (hO.ne_own h.U (by decide)).off
  have aR : Off v.R (some gN) := by rw [← hb]; exact (hO.ne_own h.R (by decide)).off
  have hT : some T ≠ some gN := by rw [← hb]; exact Ne.symm (h.row.ne_own hO (by decide))
  refine ⟨h.bt, h.row.kept hg hT, by rw [en]; exact hN, ?_, ?_, ?_, ?_, h.lu, h.lr, h.ur⟩
  · rw [em, ecd, ecn]; exact h.C.kept hg aC
  · rw [el]; exact h.L.kept hg aL
  · rw [eu, eun]; exact h.U.kept hg aU
  · rw [er, erd]; exact h.R.kept hg aR

theorem NodesAt.set {x : Value} {n gN cN : Nat} {rk fi de : Nat → Int} (h : NodesAt w B x n rk fi de) (e : x = .slice (some ⟨gN, 0, none⟩) n cN) (i f : Nat) (hf : f < 4) (hi : i < n) (y : Int) (rk' fi' de' : Nat → Int)
    (e0 : rk' = if f = 0 then upd rk i y else rk) (e1 : fi' = if f = 1 then upd fi i y else fi) (e2 : de' = if f = 2 then upd de i y else de) :
    NodesAt (w.setCell ⟨gN, i * 9 + f, none⟩ (.int .i32 y)) B x n rk' fi' de' := by
  obtain ⟨F, h, r⟩ := h
  subst e
  refine ⟨_, (h.set (i * 9 + f) (.int .i32 y)).1, fun j hj => ?_⟩
  obtain ⟨r0, r1, r2⟩ := r j hj
  subst e0 e1 e2
  by_cases ej : j = i
  · subst ej
    rcases (by omega : f = 0 ∨ f = 1 ∨ f = 2 ∨ f = 3) with rfl | rfl | rfl | rfl
    all_goals simp [upd, r0, r1, r2]
  · have n0 : j * 9 ≠ i * 9 + f := by omega
    have n1 : j * 9 + 1 ≠ i * 9 + f := by omega
    have n2 : j * 9 + 2 ≠ i * 9 + f := by omega
    rw [upd_other F _ n0, upd_other F _ n1, upd_other F _ n2, r0, r1, r2]
    refine ⟨?_, ?_, ?_⟩
    all_goals (split <;> simp [upd, ej])

theorem TMem.setRank (h : TMem w B T v g) {gN cN i : Nat} (e : v.N = .slice (some ⟨gN, 0, none⟩) g.n cN) (hi : i < g.n) (y : Int) :
    TMem (w.setCell ⟨gN, i * 9, none⟩ (.int .i32 y)) B T v { g with rk := upd g.rk i y } :=
  h.nodeWrite e _ _ _ (NodesAt.set h.N e i 0 (by decide) hi y _ _ _ (by simp) (by simp) (by simp)) rfl rfl rfl rfl rfl rfl rfl rfl rfl
theorem TMem.setFirst (h : TMem w B T v g) {gN cN i : Nat} (e : v.N = .slice (some ⟨gN, 0, none⟩) g.n cN) (hi : i < g.n) (y : Int) :
    TMem (w.setCell ⟨gN, i * 9 + 1, none⟩ (.int .i32 y)) B T v { g with fi := upd g.fi i y } :=
  h.nodeWrite e _ _ _ (NodesAt.set h.N e i 1 (by decide) hi y _ _ _ (by simp) (by simp) (by simp)) rfl rfl rfl rfl rfl rfl rfl rfl rfl
theorem TMem.setDeps (h : TMem w B T v g) {gN cN i : Nat} (e : v.N = .slice (some ⟨gN, 0, none⟩) g.n cN) (hi : i < g.n) (y : Int) :
    TMem (w.setCell ⟨gN, i * 9 + 2, none⟩ (.int .i32 y)) B T v { g with de := upd g.de i y } :=
  h.nodeWrite e _ _ _ (NodesAt.set h.N e i 2 (by decide) hi y _ _ _ (by simp) (by simp) (by simp)) rfl rfl rfl rfl rfl rfl rfl rfl rfl
theorem TMem.setCauses (h : TMem w B T v g) {gN cN i : Nat} (e : v.N = .slice (some ⟨gN, 0, none⟩) g.n cN) (hi : i < g.n) (y : Int) :
    TMem (w.setCell ⟨gN, i * 9 + 3, none⟩ (.int .i32 y)) B T v g :=
  h.nodeWrite e _ _ _ (NodesAt.set h.N e i 3 (by decide) hi y _ _ _ (by simp) (by simp) (by simp)) rfl rfl rfl rfl rfl rfl rfl rfl rfl

theorem TMem.node_cells (h : TMem w B T v g) {gN cN : Nat} (e : v.N = .slice (some ⟨gN, 0, none⟩) g.n cN) {i : Nat} (hi : i < g.n) :
    w.cell? ⟨gN, i * 9, none⟩ = some (.int .i32 (g.rk i)) ∧ w.cell? ⟨gN, i * 9 + 1, none⟩ = some (.int .i32 (g.fi i)) ∧ w.cell? ⟨gN, i * 9 + 2, none⟩ = some (.int .i32 (g.de i)) ∧ (∃ y, w.cell? ⟨gN, i * 9 + 3, none⟩ = some y) ∧
    (∀ j, w.frozen? ⟨gN, j, none⟩ = false) := by
  obtain ⟨F, hO, r⟩ := h.N
  obtain ⟨r0, r1, r2⟩ := r i hi
  rw [e] at hO
  refine ⟨?_, ?_, ?_, ⟨_, hO.cell (by omega)⟩, fun j => hO.frozen j⟩
  · rw [hO.cell (by omega), r0]
  · rw [hO.cell (by omega), r1]
  · rw [hO.cell (by omega), r2]

theorem TMem.own_nodes (h : TMem w B T v g) : ∃ F, Own w B 101 9 v.N g.n F := by
  obtain ⟨F, hO, _⟩ := h.N
  exact ⟨F, hO⟩

theorem MMem.node_kept (hm : MMem w B v n hd ms bH bM) (h : TMem w B T v g) {gN cN : Nat} (e : v.N = .slice (some ⟨gN, 0, none⟩) g.n cN) (j : Nat) (x : Value) : MMem (w.setCell ⟨gN, j, none⟩ x) B v n hd ms bH bM := by
  obtain ⟨F, hO⟩ := h.own_nodes
  refine hm.row_kept hO ?_
  rw [e]
  exact grown_set w gN j x

/-! ### the counts of what is not ready -/
theorem TMem.setUnready (h : TMem w B T v g) {gU cU i : Nat} (e : v.U = .slice (some ⟨gU, 0, none⟩) g.u cU) (y : Int) :
    TMem (w.setCell ⟨gU, i, none⟩ (.int .i32 y)) B T v { g with un := upd g.un i y } := by
  have hg := grown_set w gU i (.int .i32 y)
  obtain ⟨_, hN, _⟩ := h.N
  obtain ⟨_, hC, _⟩ := h.C
  have hb : v.U.ownBlock = some gU := by rw [e]; rfl
  have aN : Off v.N (some gU) := by rw [← hb]; exact (Own.ne_own h.U hN (by decide)).off
  have aC : Off v.C (some gU) := by rw [← hb]; exact (Own.ne_own h.U hC (by decide)).off
  have aL : Off v.L (some gU) := by rw [← hb]; exact h.lu.symm.off
  have aR : Off v.R (some gU) := by rw [← hb]; exact h.ur.off
  have hT : some T ≠ some gU := by rw [← hb]; exact Ne.symm (h.row.ne_own h.U (by decide))
  refine ⟨h.bt, h.row.kept hg hT, h.N.kept hg aN, h.C.kept hg aC, h.L.kept hg aL, ?_, h.R.kept hg aR, h.lu, h.lr, h.ur⟩
  have hU := h.U
  unfold IntsAt at hU ⊢
  rw [e] at hU ⊢
  refine (hU.set i (.int .i32 y)).1.congr (fun j _ => ?_)
  by_cases ej : j = i <;> simp [upd, ej]

theorem TMem.unready_cell (h : TMem w B T v g) {gU cU : Nat} (e : v.U = .slice (some ⟨gU, 0, none⟩) g.u cU) :
    (∀ i, i < g.u → w.cell? ⟨gU, i, none⟩ = some (.int .i32 (g.un i))) ∧ ∀ j, w.frozen? ⟨gU, j, none⟩ = false := by
  have hU := h.U
  unfold IntsAt at hU
  rw [e] at hU
  exact ⟨fun i hi => hU.cell (by omega), fun j => hU.frozen j⟩

/-! ### a new slice in one of the fields -/
theorem TMem.newC (h : TMem w B T v g) {x : Value} {m : Nat} {cd cn : Nat → Int} (hg : w.grownBy w1 v.C.ownBlock) (hx : CitesAt w1 B x m cd cn) :
    TMem (w1.setCell ⟨T, 7, none⟩ x) B T { v with C := x } { g with m := m, cd := cd, cn := cn } := by
  obtain ⟨_, hN, _⟩ := h.N
  obtain ⟨_, hC, _⟩ := h.C
  obtain ⟨_, hL⟩ := h.L
  obtain ⟨_, hX, _⟩ := id hx
  have r1 : TRow w1 T v := h.row.kept hg (Ne.symm (h.row.ne_own hC (by decide)))
  have N1 := h.N.kept hg (hC.ne_own hN (by decide)).off
  have L1 := h.L.kept hg (hC.ne_own hL (by decide)).off
  have U1 := h.U.kept hg (hC.ne_own h.U (by decide)).off
  have R1 := h.R.kept hg (hC.ne_own h.R (by decide)).off
  have g2 := grown_set w1 T 7 x
  obtain ⟨_, hN1, _⟩ := id N1
  obtain ⟨_, hL1⟩ := id L1
  exact ⟨h.bt, r1.set 7 x _ ⟨rfl, rfl, rfl, rfl, rfl, rfl, rfl, rfl⟩, N1.kept g2 (off_some (r1.ne_own hN1 (by decide))), hx.kept g2 (off_some (r1.ne_own hX (by decide))),
    L1.kept g2 (off_some (r1.ne_own hL1 (by decide))), U1.kept g2 (off_some (r1.ne_own U1 (by decide))), R1.kept g2 (off_some (r1.ne_own R1 (by decide))), h.lu, h.lr, h.ur⟩

theorem TMem.newN (h : TMem w B T v g) {x : Value} {k : Nat} {rk fi de : Nat → Int} (hg : w.grownBy w1 v.N.ownBlock) (hx : NodesAt w1 B x k rk fi de) :
    TMem (w1.setCell ⟨T, 6, none⟩ x) B T { v with N := x } { g with n := k, rk := rk, fi := fi, de := de } := by
  obtain ⟨_, hN, _⟩ := h.N
  obtain ⟨_, hC, _⟩ := h.C
  obtain ⟨_, hL⟩ := h.L
  obtain ⟨_, hX, _⟩ := id hx
  have r1 : TRow w1 T v := h.row.kept hg (Ne.symm (h.row.ne_own hN (by decide)))
  have C1 := h.C.kept hg (hN.ne_own hC (by decide)).off
  have L1 := h.L.kept hg (hN.ne_own hL (by decide)).off
  have U1 := h.U.kept hg (hN.ne_own h.U (by decide)).off
  have R1 := h.R.kept hg (hN.ne_own h.R (by decide)).off
  have g2 := grown_set w1 T 6 x
  obtain ⟨_, hC1, _⟩ := id C1
  obtain ⟨_, hL1⟩ := id L1
  exact ⟨h.bt, r1.set 6 x _ ⟨rfl, rfl, rfl, rfl, rfl, rfl, rfl, rfl⟩, hx.kept g2 (off_some (r1.ne_own hX (by decide))), C1.kept g2 (off_some (r1.ne_own hC1 (by decide))),
    L1.kept g2 (off_some (r1.ne_own hL1 (by decide))), U1.kept g2 (off_some (r1.ne_own U1 (by decide))), R1.kept g2 (off_some (r1.ne_own R1 (by decide))), h.lu, h.lr, h.ur⟩

/-- where a grown slice lies: in the old block, or in a new one -/
theorem apart_new {x x' y : Value} {e : TypeId} {k n : Nat} {F : Nat → Value} (ha : Apart x y) (hy : Own w B e k y n F) (hl : x'.ownBlock = x.ownBlock ∨ ∃ b, x'.ownBlock = some b ∧ w.heap.size ≤ b) : Apart x' y := by
  intro b h1 h2
  rcases hl with h | ⟨c, h, hc⟩
  · exact ha b (by rw [← h]; exact h1) h2
  · have := (hy.lt b h2).2
    rw [h] at h1
    cases h1
    omega

theorem TMem.newL (h : TMem w B T v g) {x : Value} {k : Nat} (hg : w.grownBy w1 v.L.ownBlock) (hx : RowAt w1 B x k) (hl : x.ownBlock = v.L.ownBlock ∨ ∃ b, x.ownBlock = some b ∧ w.heap.size ≤ b) :
    TMem (w1.setCell ⟨T, 78, none⟩ x) B T { v with L := x } { g with l := k } := by
  obtain ⟨_, hN, _⟩ := h.N
  obtain ⟨_, hC, _⟩ := h.C
  obtain ⟨_, hL⟩ := h.L
  obtain ⟨_, hX⟩ := id hx
  have r1 : TRow w1 T v := h.row.kept hg (Ne.symm (h.row.ne_own hL (by decide)))
  have N1 := h.N.kept hg (hL.ne_own hN (by decide)).off
  have C1 := h.C.kept hg (hL.ne_own hC (by decide)).off
  have U1 := h.U.kept hg h.lu.off
  have R1 := h.R.kept hg h.lr.off
  have g2 := grown_set w1 T 78 x
  obtain ⟨_, hC1, _⟩ := id C1
  obtain ⟨_, hN1, _⟩ := id N1
  exact ⟨h.bt, r1.set 78 x _ ⟨rfl, rfl, rfl, rfl, rfl, rfl, rfl, rfl⟩, N1.kept g2 (off_some (r1.ne_own hN1 (by decide))), C1.kept g2 (off_some (r1.ne_own hC1 (by decide))),
    hx.kept g2 (off_some (r1.ne_own hX (by decide))), U1.kept g2 (off_some (r1.ne_own U1 (by decide))), R1.kept g2 (off_some (r1.ne_own R1 (by decide))), apart_new h.lu h.U hl, apart_new h.lr h.R hl, h.ur⟩

theorem TMem.newU (h : TMem w B T v g) {x : Value} {k : Nat} {un : Nat → Int} (hg : w.grownBy w1 v.U.ownBlock) (hx : IntsAt w1 B x k un) (hl : x.ownBlock = v.U.ownBlock ∨ ∃ b, x.ownBlock = some b ∧ w.heap.size ≤ b) :
    TMem (w1.setCell ⟨T, 141, none⟩ x) B T { v with U := x } { g with u := k, un := un } := by
  obtain ⟨_, hN, _⟩ := h.N
  obtain ⟨_, hC, _⟩ := h.C
  obtain ⟨_, hL⟩ := h.L
  have r1 : TRow w1 T v := h.row.kept hg (Ne.symm (h.row.ne_own h.U (by decide)))
  have N1 := h.N.kept hg (Own.ne_own h.U hN (by decide)).off
  have C1 := h.C.kept hg (Own.ne_own h.U hC (by decide)).off
  have L1 := h.L.kept hg h.lu.symm.off
  have R1 := h.R.kept hg h.ur.off
  have g2 := grown_set w1 T 141 x
  obtain ⟨_, hC1, _⟩ := id C1
  obtain ⟨_, hN1, _⟩ := id N1
  obtain ⟨_, hL1⟩ := id L1
  exact ⟨h.bt, r1.set 141 x _ ⟨rfl, rfl, rfl, rfl, rfl, rfl, rfl, rfl⟩, N1.kept g2 (off_some (r1.ne_own hN1 (by decide))), C1.kept g2 (off_some (r1.ne_own hC1 (by decide))),
    L1.kept g2 (off_some (r1.ne_own hL1 (by decide))), hx.kept g2 (off_some (r1.ne_own hx (by decide))), R1.kept g2 (off_some (r1.ne_own R1 (by decide))), (apart_new h.lu.symm hL hl).symm, h.lr, apart_new h.ur h.R hl⟩

theorem TMem.newR (h : TMem w B T v g) {x : Value} {k : Nat} {rd : Nat → Int} (hg : w.grownBy w1 v.R.ownBlock) (hx : IntsAt w1 B x k rd) (hl : x.ownBlock = v.R.ownBlock ∨ ∃ b, x.ownBlock = some b ∧ w.heap.size ≤ b) :
    TMem (w1.setCell ⟨T, 142, none⟩ x) B T { v with R := x } { g with r := k, rd := rd } := by
  obtain ⟨_, hN, _⟩ := h.N
  obtain ⟨_, hC, _⟩ := h.C
  obtain ⟨_, hL⟩ := h.L
  have r1 : TRow w1 T v := h.row.kept hg (Ne.symm (h.row.ne_own h.R (by decide)))
  have N1 := h.N.kept hg (Own.ne_own h.R hN (by decide)).off
  have C1 := h.C.kept hg (Own.ne_own h.R hC (by decide)).off
  have L1 := h.L.kept hg h.lr.symm.off
  have U1 := h.U.kept hg h.ur.symm.off
  have g2 := grown_set w1 T 142 x
  obtain ⟨_, hC1, _⟩ := id C1
  obtain ⟨_, hN1, _⟩ := id N1
  obtain ⟨_, hL1⟩ := id L1
  exact ⟨h.bt, r1.set 142 x _ ⟨rfl, rfl, rfl, rfl, rfl, rfl, rfl, rfl⟩, N1.kept g2 (off_some (r1.ne_own hN1 (by decide))), C1.kept g2 (off_some (r1.ne_own hC1 (by decide))),
    L1.kept g2 (off_some (r1.ne_own hL1 (by decide))), U1.kept g2 (off_some (r1.ne_own U1 (by decide))), hx.kept g2 (off_some (r1.ne_own hx (by decide))), h.lu, (apart_new h.lr.symm hL hl).symm, (apart_new h.ur.symm h.U hl).symm⟩

end
end Go.Proofs.Qxb6616545a.Mem
