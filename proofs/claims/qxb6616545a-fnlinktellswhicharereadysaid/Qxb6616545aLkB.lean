import Derived.Test.Qxb6616545aCuB
/-! link, in plain numbers; and the memory through its loop -/
namespace Go.Proofs.Qxb6616545a.Mem
set_option linter.unusedVariables false
set_option linter.unusedSimpArgs false
open Go.RowKit
open Go.Proofs.Qxb6616545a.Plain

def linkHead (s k : Nat) (g : G) : G := { g with hd := if g.fi s < 0 then upd g.hd s true else g.hd, ms := upd g.ms s false, l := g.l + 1 + k }

def halfStep (g : G) (c : Nat) : G := { g with hd := if g.rk c ≠ -2147483648 ∧ g.fi c < 0 then upd g.hd c false else g.hd, ms := if g.rk c = -2147483648 then upd g.ms c true else g.ms }

def restStep (s : Nat) (g : G) (c : Nat) : G :=
  if g.fi c < 0 then { g with fi := upd g.fi c (s : Int) }
  else { g with m := g.m + 1, cd := upd g.cd g.m (s : Int), cn := upd g.cn g.m (g.de c), de := upd g.de c (g.m : Int) }

def linkStep (s : Nat) (g : G) (c : Nat) : G := restStep s (halfStep g c) c

def lk (s : Nat) (cs : Nat → Nat) : Nat → G → G
  | 0, g => g
  | j + 1, g => linkStep s (lk s cs j g) (cs j)

theorem lk_same (s : Nat) (cs : Nat → Nat) (g : G) : ∀ j, (lk s cs j g).n = g.n ∧ (lk s cs j g).rk = g.rk ∧ (lk s cs j g).u = g.u ∧ (lk s cs j g).un = g.un ∧ (lk s cs j g).r = g.r ∧ (lk s cs j g).rd = g.rd ∧ (lk s cs j g).l = g.l ∧ (lk s cs j g).m ≤ g.m + j
  | 0 => ⟨rfl, rfl, rfl, rfl, rfl, rfl, rfl, Nat.le_refl _⟩
  | j + 1 => by
    obtain ⟨h1, h2, h3, h4, h5, h6, h7, h8⟩ := lk_same s cs g j
    unfold lk linkStep restStep
    split
    · exact ⟨h1, h2, h3, h4, h5, h6, h7, by simp only [halfStep]; omega⟩
    · exact ⟨h1, h2, h3, h4, h5, h6, h7, by simp only [halfStep]; omega⟩

structure LMem (w wr : World) (B T : Nat) (v : V) (g : G) (bH bM : Nat) : Prop where
  T : TMem wr B T v g
  M : MMem wr B v g.n g.hd g.ms bH bM
  L : Below B w wr

theorem LMem.drew {w wr : World} {B T : Nat} {v : V} {g : G} {bH bM : Nat} (h : LMem w wr B T v g bH bM) : LMem w wr.drew B T v g bH bM := ⟨h.T.drew, h.M.drew, h.L.drew⟩
theorem LMem.alloc {w wr : World} {B T : Nat} {v : V} {g : G} {bH bM : Nat} (h : LMem w wr B T v g bH bM) (o : Obj) : LMem w (wr.alloc o) B T v g bH bM :=
  ⟨h.T.alloc o, h.M.alloc o, h.L.alloc (by have := h.T.lt; have := h.T.bt; omega) o⟩

/-- TMem does not speak of the sets -/
theorem TMem.sets {w : World} {B T : Nat} {v : V} {g : G} (h : TMem w B T v g) (hd ms : Nat → Bool) : TMem w B T v { g with hd := hd, ms := ms } :=
  ⟨h.bt, h.row, h.N, h.C, h.L, h.U, h.R, h.lu, h.lr, h.ur⟩

theorem LMem.heads {w wr w1 : World} {B T : Nat} {v : V} {g : G} {bH bM : Nat} (h : LMem w wr B T v g bH bM) {hd' : Nat → Bool} (hs : SetIs w1 bH g.n hd') (hg : wr.grownBy w1 (some bH)) : LMem w w1 B T v { g with hd := hd' } bH bM :=
  ⟨(h.T.kept_map h.M.H hg).sets _ g.ms, h.M.heads hs hg, h.L.grown hg (by have := h.T.lt; have := h.T.bt; omega) (fun k hk => by cases hk; exact h.M.lH)⟩
theorem LMem.missing {w wr w1 : World} {B T : Nat} {v : V} {g : G} {bH bM : Nat} (h : LMem w wr B T v g bH bM) {ms' : Nat → Bool} (hs : SetIs w1 bM g.n ms') (hg : wr.grownBy w1 (some bM)) : LMem w w1 B T v { g with ms := ms' } bH bM :=
  ⟨(h.T.kept_map h.M.M hg).sets g.hd _, h.M.missing hs hg, h.L.grown hg (by have := h.T.lt; have := h.T.bt; omega) (fun k hk => by cases hk; exact h.M.lM)⟩

theorem LMem.first {w wr : World} {B T : Nat} {v : V} {g : G} {bH bM : Nat} (h : LMem w wr B T v g bH bM) {gN cN c : Nat} (e : v.N = .slice (some ⟨gN, 0, none⟩) g.n cN) (hc : c < g.n) (y : Int) :
    LMem w (wr.setCell ⟨gN, c * 9 + 1, none⟩ (.int .i32 y)) B T v { g with fi := upd g.fi c y } bH bM := by
  obtain ⟨F, hO⟩ := h.T.own_nodes
  exact ⟨h.T.setFirst e hc y, h.M.node_kept h.T e _ _, h.L.setCell (by exact own_ge hO gN (by rw [e]; rfl)) _⟩
theorem LMem.deps {w wr : World} {B T : Nat} {v : V} {g : G} {bH bM : Nat} (h : LMem w wr B T v g bH bM) {gN cN c : Nat} (e : v.N = .slice (some ⟨gN, 0, none⟩) g.n cN) (hc : c < g.n) (y : Int) :
    LMem w (wr.setCell ⟨gN, c * 9 + 2, none⟩ (.int .i32 y)) B T v { g with de := upd g.de c y } bH bM := by
  obtain ⟨F, hO⟩ := h.T.own_nodes
  exact ⟨h.T.setDeps e hc y, h.M.node_kept h.T e _ _, h.L.setCell (by exact own_ge hO gN (by rw [e]; rfl)) _⟩
theorem LMem.causes {w wr : World} {B T : Nat} {v : V} {g : G} {bH bM : Nat} (h : LMem w wr B T v g bH bM) {gN cN c : Nat} (e : v.N = .slice (some ⟨gN, 0, none⟩) g.n cN) (hc : c < g.n) (y : Int) :
    LMem w (wr.setCell ⟨gN, c * 9 + 3, none⟩ (.int .i32 y)) B T v g bH bM := by
  obtain ⟨F, hO⟩ := h.T.own_nodes
  exact ⟨h.T.setCauses e hc y, h.M.node_kept h.T e _ _, h.L.setCell (by exact own_ge hO gN (by rw [e]; rfl)) _⟩

/-- a new list of causes -/
theorem LMem.lists {w wr w1 : World} {B T : Nat} {v : V} {g : G} {bH bM : Nat} (h : LMem w wr B T v g bH bM) {x : Value} {k : Nat} (hg : wr.grownBy w1 v.L.ownBlock) (hx : RowAt w1 B x k) (hl : Lies wr x v.L) :
    LMem w (w1.setCell ⟨T, 78, none⟩ x) B T { v with L := x } { g with l := k } bH bM := by
  obtain ⟨F, hO⟩ := h.T.L
  have hM1 : MMem w1 B v g.n g.hd g.ms bH bM := h.M.row_kept hO hg
  have r1 : TRow w1 T v := TRow.far h.T.row hO (by decide) hg
  exact ⟨h.T.newL hg hx hl, (hM1.field_kept r1 78 x).vals rfl rfl, (h.L.grown hg (by have := h.T.lt; have := h.T.bt; omega) (own_ge hO)).setCell h.T.bt _⟩

/-- a new entry among the citations -/
theorem LMem.cite {w wr w1 : World} {B T : Nat} {v : V} {g : G} {bH bM : Nat} (h : LMem w wr B T v g bH bM) {x : Value} {F : Nat → Value} (y d : Int) (hF : ∀ i, i < g.m → F (i * 2) = .int .i32 (g.cd i) ∧ F (i * 2 + 1) = .int .i32 (g.cn i))
    (hg : wr.grownBy w1 v.C.ownBlock) (hx : Own w1 B 109 2 x (g.m + 1) (cat (g.m * 2) F (fun j => #[Value.int .i32 y, Value.int .i32 d].getD j undef))) :
    LMem w (w1.setCell ⟨T, 7, none⟩ x) B T { v with C := x } { g with m := g.m + 1, cd := upd g.cd g.m y, cn := upd g.cn g.m d } bH bM := by
  obtain ⟨F', hO, _⟩ := h.T.C
  have hM1 : MMem w1 B v g.n g.hd g.ms bH bM := h.M.row_kept hO hg
  have r1 : TRow w1 T v := TRow.far h.T.row hO (by decide) hg
  have hC : CitesAt w1 B x (g.m + 1) (upd g.cd g.m y) (upd g.cn g.m d) := by
    refine ⟨_, hx, fun i hi => ?_⟩
    by_cases e : i = g.m
    · subst e
      have n0 : ¬ g.m * 2 + 1 < g.m * 2 := by omega
      simp [cat, upd, n0]
    · obtain ⟨r0, r1⟩ := hF i (by omega)
      have n0 : i * 2 < g.m * 2 := by omega
      have n1 : i * 2 + 1 < g.m * 2 := by omega
      simp only [cat, if_pos n0, if_pos n1, upd_other _ _ e]
      exact ⟨r0, r1⟩
  exact ⟨h.T.newC hg hC, (hM1.field_kept r1 7 x).vals rfl rfl, (h.L.grown hg (by have := h.T.lt; have := h.T.bt; omega) (own_ge hO)).setCell h.T.bt _⟩

/-- the causes are read as they came -/
theorem args_cells {w wr : World} {B : Nat} (hL : Below B w wr) {ca : Option Addr} {k : Nat} {cs : Nat → Nat}
    (hca : ∀ p, ca = some p → 0 < k → ∃ pb po, p = ⟨pb, po, none⟩ ∧ pb < B ∧ ∀ j, j < k → w.cell? ⟨pb, po + j, none⟩ = some (.int .i32 (cs j : Int))) :
    ∀ p, ca = some p → ∀ j, j < k → wr.cell? (p.add j) = some (.int .i32 (cs j : Int)) := by
  intro p hp j hj
  obtain ⟨pb, po, rfl, hb, hc⟩ := hca p hp (by omega)
  have e : (⟨pb, po, none⟩ : Addr).add j = ⟨pb, po + j, none⟩ := by simp [Addr.add]
  rw [e, hL.cell (by exact hb), hc j hj]

theorem TMem.cites_any {w : World} {B T : Nat} {v : V} {g : G} (h : TMem w B T v g) : ∃ a c F, v.C = .slice a g.m c ∧ Own w B 109 2 (.slice a g.m c) g.m F ∧ ∀ i, i < g.m → F (i * 2) = .int .i32 (g.cd i) ∧ F (i * 2 + 1) = .int .i32 (g.cn i) := by
  obtain ⟨F, hO, r⟩ := h.C
  obtain ⟨a, c, e, _, _⟩ := hO.form
  rw [e] at hO
  exact ⟨a, c, F, e, hO, r⟩

/-- behind the append of a citation: what the store reads -/
theorem cite_facts {w wr w1 : World} {B T : Nat} {v : V} {g : G} {bH bM : Nat} (h : LMem w wr B T v g bH bM) {aC : Option Addr} {cC : Nat} (eC : v.C = .slice aC g.m cC) (hg : wr.grownBy w1 (Value.slice aC g.m cC).ownBlock)
    {gN cN : Nat} (eN : v.N = .slice (some ⟨gN, 0, none⟩) g.n cN) {c : Nat} (hc : c < g.n) :
    (w1.cell? ⟨T, 6, none⟩ = some (.slice (some ⟨gN, 0, none⟩) g.n cN) ∧ w1.cell? ⟨T, 7, none⟩ = some (.slice aC g.m cC) ∧ w1.cell? ⟨gN, c * 9 + 2, none⟩ = some (.int .i32 (g.de c))) ∧ w1.frozen? ⟨T, 7, none⟩ = false := by
  rw [← eC] at hg
  obtain ⟨F, hO, _⟩ := h.T.C
  have r1 : TRow w1 T v := TRow.far h.T.row hO (by decide) hg
  obtain ⟨F', hN, hF⟩ := h.T.N
  have hN1 : Own w1 B 101 9 v.N g.n F' := hN.kept hg (hO.ne_own hN (by decide)).off
  rw [eN] at hN1
  refine ⟨⟨?_, ?_, ?_⟩, r1.frozen 7⟩
  · rw [r1.cell.1, eN]
  · rw [r1.cell.2.1, eC]
  · rw [hN1.cell (by omega), (hF c hc).2.2]

theorem one2 (a b : Int) : ∀ i, i < 1 * 2 → (#[Value.int .i32 a, Value.int .i32 b].getD i undef).oneCell' = true := one_of _ 2 rfl (by simp [Value.oneCell'])

/-- what countUnready asks, of the timeline behind link's loop -/
theorem count_pre {g : G} {s k : Nat} {cs : Nat → Nat} {csl dl : Nat → List Nat} {A : Nat → Bool} {R0 : List Nat} {vU : Value} (hr : g.r = R0.length) (hrd : ∀ j, j < R0.length → g.rd j = rdOf R0 j) (hI : RInv g.n csl A g.un R0)
    (hG : Grph g.n csl (upd A s true) (lk s cs k (linkHead s k g)) dl) (hm21 : g.m + k ≤ 2097152)
    (hu : g.u = g.n ∨ (vU = .slice none 0 0 ∧ ∀ i, i < g.n → A i = false)) (hrk0 : ∀ i, i < g.n → g.rk i = if upd A s true i then 0 else -2147483648) :
    (lk s cs k (linkHead s k g)).n = g.n ∧ (lk s cs k (linkHead s k g)).r = R0.length ∧ (∀ j, j < R0.length → (lk s cs k (linkHead s k g)).rd j = rdOf R0 j) ∧ RInv (lk s cs k (linkHead s k g)).n csl A (lk s cs k (linkHead s k g)).un R0 ∧
    Grph (lk s cs k (linkHead s k g)).n csl (upd A s true) (lk s cs k (linkHead s k g)) dl ∧ (lk s cs k (linkHead s k g)).m ≤ 2097152 ∧
    ((lk s cs k (linkHead s k g)).u = (lk s cs k (linkHead s k g)).n ∨ (vU = .slice none 0 0 ∧ ∀ i, i < (lk s cs k (linkHead s k g)).n → A i = false)) ∧
    (∀ i, i < (lk s cs k (linkHead s k g)).n → (lk s cs k (linkHead s k g)).rk i = if upd A s true i then 0 else -2147483648) := by
  obtain ⟨h1, h2, h3, h4, h5, h6, h7, h8⟩ := lk_same s cs (linkHead s k g) k
  rw [h1, h2, h3, h4, h5, h6]
  have h8' : (lk s cs k (linkHead s k g)).m ≤ g.m + k := h8
  exact ⟨rfl, hr, hrd, hI, hG, by omega, hu, hrk0⟩

/-- what link leaves -/
def LPost (w w' : World) (B T : Nat) (g : G) (s k : Nat) (cs : Nat → Nat) (csl : Nat → List Nat) (A : Nat → Bool) : Prop :=
  ∃ v un R bH bM, TMem w' B T v { lk s cs k (linkHead s k g) with n := g.n, u := g.n, un := un, r := R.length, rd := rdOf R } ∧ MMem w' B v g.n (lk s cs k (linkHead s k g)).hd (lk s cs k (linkHead s k g)).ms bH bM ∧ RInv g.n csl A un R ∧ Below B w w'

theorem lpost_of {w wr w' : World} {B T : Nat} {v : V} {g : G} {bH bM : Nat} {s k : Nat} {cs : Nat → Nat} {csl : Nat → List Nat} {A : Nat → Bool} (h : LMem w wr B T v (lk s cs k (linkHead s k g)) bH bM)
    (hc : CPost wr w' B T v (lk s cs k (linkHead s k g)) csl A) : LPost w w' B T g s k cs csl A := by
  obtain ⟨gU, cU, un, R, aR, cR, hb, hr⟩ := hc
  have en : (lk s cs k (linkHead s k g)).n = g.n := (lk_same s cs (linkHead s k g) k).1
  have hT := hb.T
  rw [en] at hr hT
  refine ⟨_, un, R, bH, bM, hT, ?_, hr, h.L.trans hb.L⟩
  have hM := h.M.mapsKept (v' := { v with U := .slice (some ⟨gU, 0, none⟩) g.n cU, R := .slice aR R.length cR }) hb.K rfl rfl
  rw [en] at hM
  exact hM

/-- 'append' at a step of a region that draws its order -/
theorem step_app (w : World) {ops : Array Oper} {o : Oper} {a : Act} {K : Act → World → Prop} {Q : Exit → Act → World → Prop} {E : Prop} (hgd : o.guard = none) (s x : Operand) (t : TypeId)
    (ho : o.op = .call { callee := .builtin .append, args := #[s, x], argTypes := #[t, t] })
    (e : TypeId) (z : Value) (size bytes : Nat) (ht : Try.prog.underlying t = some (.slice e)) (hinfo : (Try.prog.info? e).map (fun i => (i.zero, i.size, i.bytes)) = some (some z, size, bytes))
    (hzs : z.cells.size = size) (hsz : 0 < size) (B : Nat) (v : Value) (n : Nat) (F : Nat → Value) (hs : a.eval s = v) (hown : Own w B e size v n F)
    (ad : Addr) (m c : Nat) (G : Nat → Value) (hx : a.eval x = .slice (some ad) m c) (hnews : ∀ j, j < m * size → w.cell? (ad.add j) = some (G j)) (h1 : ∀ j, j < m * size → (G j).oneCell' = true)
    (hm : 0 < m) (h63 : n + m ≤ 4194304) (hby : bytes ≤ 64) (hbase : B ≤ w.heap.size)
    (h : ∀ g cap w', Own w' B e size (.slice (some ⟨g, 0, none⟩) (n + m) cap) (n + m) (cat (n * size) F G) → w.grownBy w' v.ownBlock → (v.ownBlock = some g ∨ g = w.heap.size) →
      K (a.put o.dst (.slice (some ⟨g, 0, none⟩) (n + m) cap)) w') : if Region.wanted o (yielded ops a.tmps) = true then Oper.wp Try.prog o a w K Q else E := by
  obtain ⟨i0, hi, hz0, hz1, hz2⟩ := info_parts hinfo
  obtain ⟨xs, hown, hF⟩ := hown
  have hl : ((List.range (m * size)).map G).length = m * size := by simp
  refine step_append_lies w hgd s x t ho B e i0 z size bytes ht hi hz0 hz1 hz2 hzs hsz v n xs hs hown ad m c ((List.range (m * size)).map G) hx hl ?_ ?_ hm (by unfold maxLen; omega) ?_ hbase w.heap.size rfl ?_
  · intro j u hj
    have hj' : j < m * size := by
      have := (List.getElem?_eq_some_iff.1 hj).1
      simpa using this
    rw [hnews j hj']
    simpa [hj'] using hj
  · intro u hu
    obtain ⟨j, hj, rfl⟩ := List.mem_map.1 hu
    exact h1 j (List.mem_range.1 hj)
  · exact Nat.le_trans (Nat.mul_le_mul h63 hby) (by decide)
  · intro g cap w' h2 h3 h4 _
    refine h g cap w' ⟨_, h2, fun j hj => ?_⟩ h3 h4
    have hlx := hown.1
    unfold cat
    by_cases hj' : j < n * size
    · rw [if_pos hj', List.getElem?_append_left (by omega), hF j hj']
    · have hj2 : j - n * size < m * size := by rw [Nat.add_mul] at hj; omega
      rw [if_neg hj', List.getElem?_append_right (by omega), hlx]
      simp [hj2]

end Go.Proofs.Qxb6616545a.Mem
