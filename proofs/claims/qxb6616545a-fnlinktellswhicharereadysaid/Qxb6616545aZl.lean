import Derived.Test.Qxb6616545aLk
/-! ZZsetAdded and ZZlink; the timeline as it is made -/
namespace Go.Proofs.Qxb6616545a.Mem
set_option linter.unusedVariables false
set_option linter.unusedSimpArgs false
open Go.RowKit
open Go.Proofs.Qxb6616545a.Plain

theorem Maps2.mapsKept {w w' : World} {B n : Nat} {v v' : V} {hd ms : Nat → Bool} (h : Maps2 w B v n hd ms) (hk : MapsKept w w') (e1 : v'.H = v.H) (e2 : v'.M = v.M) : Maps2 w' B v' n hd ms := by
  rcases h with ⟨h1, h2, h3, h4⟩ | ⟨bH, bM, h⟩
  · exact .inl ⟨e1.trans h1, e2.trans h2, h3, h4⟩
  · exact .inr ⟨bH, bM, h.mapsKept hk e1 e2⟩

theorem setAdded {w : World} {B T : Nat} {v : V} {g : G} (h : TMem w B T v g) (hn : g.n ≤ 1024) (i : Nat) (hi : i < g.n) :
    Calls Try.prog 20 #[.pointer (some ⟨T, 0, none⟩), .int .i32 (i : Int)] w fun e w' => e = .returned (.tuple #[]) ∧ TMem w' B T v { g with rk := upd g.rk i 0 } ∧ MapsKept w w' ∧ Below B w w' := by
  obtain ⟨gc6, -, -, -, -, -, -, -⟩ := h.row.cell
  obtain ⟨gN, cN, eN⟩ := h.nodes_form (by omega)
  rw [eN] at gc6
  obtain ⟨hr0, -, -, -, hrf⟩ := h.node_cells eN hi
  have hrf0 := hrf (i * 9)
  have HH : Hid (TMem w B T v g) := h
  have HE : Hid (v.N = .slice (some ⟨gN, 0, none⟩) g.n cN) := eN
  clear h eN hrf
  go_enter Try.func20, Try.ntmps20
  go_wp2
  go_end0
  obtain ⟨F, hO⟩ := HH.out.own_nodes
  have hb : v.N.ownBlock = some gN := by rw [HE.out]; rfl
  exact ⟨rfl, HH.out.setRank HE.out hi 0, (MapsKept.refl w).own hO (by rw [hb]; exact grown_set w gN (i * 9) _), (Below.refl B w).setCell (by exact own_ge hO gN hb) _⟩

theorem zzLink {w : World} {B T : Nat} {v : V} {g : G} (h : TMem w B T v g) (hm : Maps2 w B v g.n g.hd g.ms) (hn : g.n ≤ 1024) (s : Nat) (hs : s < g.n)
    (R0 : List Nat) (hr : g.r = R0.length) (hrd : ∀ j, j < R0.length → g.rd j = rdOf R0 j) (A : Nat → Bool) (csl dl : Nat → List Nat) (hI : RInv g.n csl A g.un R0)
    (ca : Option Addr) (k cap : Nat) (hk : k ≤ 1048576) (cs : Nat → Nat) (hcsl : csl s = (List.range k).map cs) (hcs0 : ∀ j, j < k → cs j < g.n ∧ cs j ≠ s)
    (hG : Grph g.n csl (upd A s true) (lk s cs k (linkHead s k g)) dl) (hm21 : g.m + k ≤ 2097152) (hl21 : g.l + 1 + k ≤ 4194304) (hAs : A s = false)
    (hu : g.u = g.n ∨ (v.U = .slice none 0 0 ∧ ∀ i, i < g.n → A i = false)) (hrk0 : ∀ i, i < g.n → g.rk i = if upd A s true i then 0 else -2147483648)
    (hnil : ca = none → k = 0 ∧ cap = 0)
    (hca : ∀ p, ca = some p → 0 < k → ∃ pb po, p = ⟨pb, po, none⟩ ∧ pb < B ∧ ∀ j, j < k → w.cell? ⟨pb, po + j, none⟩ = some (.int .i32 (cs j : Int))) :
    Calls Try.prog 21 #[.pointer (some ⟨T, 0, none⟩), .int .i32 (s : Int), .slice ca k cap] w fun e w' => e = .returned (.tuple #[]) ∧ LPost w w' B T g s k cs csl (upd A s true) := by
  have hc := link_any h hm hn s hs R0 hr hrd A csl dl hI ca k cap hk cs hcsl hcs0 hG hm21 hl21 hAs hu hrk0 hnil hca
  have HC : Hid (Calls Try.prog 22 #[.pointer (some ⟨T, 0, none⟩), .int .i32 (s : Int), .slice ca k cap, .agg #[.slice none 0 0, .bool false]] w fun e w' => e = .returned (.tuple #[]) ∧ LPost w w' B T g s k cs csl (upd A s true)) := hc
  clear hc h hm hr hrd hI hcsl hcs0 hG hm21 hl21 hAs hu hrk0 hnil hca
  go_enter Try.func21, Try.ntmps21
  go_wp2_with (go_at_call 22; refine HC.out.mono ?_; rintro e w' ⟨rfl, hp⟩)
  go_end0
  exact ⟨rfl, hp⟩

/-- a timeline of q nodes, none added -/
def gInit (q : Nat) : G := { n := q, rk := fun _ => -2147483648, fi := fun _ => -1, de := fun _ => -1, m := 0, cd := fun _ => 0, cn := fun _ => 0, l := 0, u := 0, un := fun _ => 0, r := 0, rd := fun _ => 0, hd := fun _ => false, ms := fun _ => false }

def vInit (x : Value) : V := { N := x, C := .slice none 0 0, L := .slice none 0 0, U := .slice none 0 0, R := .slice none 0 0, H := none, M := none }

theorem upd_const {α : Type} (c : α) (q : Nat) : upd (fun _ => c) q c = fun _ => c := by
  funext i
  simp [upd]

theorem gInit_succ (q : Nat) : ({ gInit q with n := (gInit q).n + 1, rk := upd (gInit q).rk (gInit q).n (-2147483648), fi := upd (gInit q).fi (gInit q).n (-1), de := upd (gInit q).de (gInit q).n (-1) } : G) = gInit (q + 1) := by
  simp only [gInit, upd_const]

/-- the zero timeline's cells -/
theorem zeroT : ∃ z : Array Value, (∀ w, (Instr.build 92 #[]).run Try.prog w = .ok (.agg z) w) ∧ z.size = 251 ∧ z[6]? = some (.slice none 0 0) ∧ z[7]? = some (.slice none 0 0) ∧ z[78]? = some (.slice none 0 0) ∧ z[103]? = some (.bool false) ∧
    z[139]? = some (.map none) ∧ z[140]? = some (.map none) ∧ z[141]? = some (.slice none 0 0) ∧ z[142]? = some (.slice none 0 0) := by
  have hb : (Try.prog.built 92 []).isSome = true := by kernel_rfl
  obtain ⟨z, hz⟩ := Option.isSome_iff_exists.1 hb
  refine ⟨z, fun w => run_build w 92 #[] z hz, ?_⟩
  have e : ∀ {β : Type} (f : Array Value → β), f z = f ((Try.prog.built 92 []).getD #[]) := fun f => by rw [hz]; rfl
  refine ⟨?_, ?_, ?_, ?_, ?_, ?_, ?_, ?_, ?_⟩
  · rw [e (fun z => z.size)]; kernel_rfl
  · rw [e (fun z => z[6]?)]; kernel_rfl
  · rw [e (fun z => z[7]?)]; kernel_rfl
  · rw [e (fun z => z[78]?)]; kernel_rfl
  · rw [e (fun z => z[103]?)]; kernel_rfl
  · rw [e (fun z => z[139]?)]; kernel_rfl
  · rw [e (fun z => z[140]?)]; kernel_rfl
  · rw [e (fun z => z[141]?)]; kernel_rfl
  · rw [e (fun z => z[142]?)]; kernel_rfl

/-- the new timeline in memory -/
theorem tinit (w : World) {z : Array Value} (hs : z.size = 251) (h6 : z[6]? = some (.slice none 0 0)) (h7 : z[7]? = some (.slice none 0 0)) (h78 : z[78]? = some (.slice none 0 0)) (h103 : z[103]? = some (.bool false))
    (h139 : z[139]? = some (.map none)) (h140 : z[140]? = some (.map none)) (h141 : z[141]? = some (.slice none 0 0)) (h142 : z[142]? = some (.slice none 0 0)) :
    TMem (w.alloc (.cells z 92)) w.heap.size w.heap.size (vInit (.slice none 0 0)) (gInit 0) := by
  have hr : (w.alloc (.cells z 92)).rowIs w.heap.size 92 251 (fun i => z.getD i undef) := by
    rw [← hs]
    exact World.rowIs_alloc w z 92 _ (fun i hi => by simp [Array.getD, hi])
  have g : ∀ i x, z[i]? = some x → z.getD i undef = x := fun i x hx => by
    obtain ⟨h1, h2⟩ := Array.getElem?_eq_some_iff.1 hx
    simp [Array.getD, h1, h2]
  have ap : Apart (.slice none 0 0) (.slice none 0 0) := fun b h => by cases h
  refine ⟨Nat.le_refl _, ⟨_, hr, g 6 _ h6, g 7 _ h7, g 78 _ h78, g 103 _ h103, g 139 _ h139, g 140 _ h140, g 141 _ h141, g 142 _ h142⟩, ?_, ?_, ?_, ?_, ?_, ap, ap, ap⟩
  · exact ⟨fun _ => undef, Own.nil _ _ _ _ _, fun i hi => by simp [gInit] at hi⟩
  · exact ⟨fun _ => undef, Own.nil _ _ _ _ _, fun i hi => by simp [gInit] at hi⟩
  · exact ⟨fun _ => undef, Own.nil _ _ _ _ _⟩
  · exact Own.nil _ _ _ _ _
  · exact Own.nil _ _ _ _ _

section
variable (w : World) {ops : Array Oper} {rest : List Oper} {o : Oper} {a : Act} {Q : Exit → Act → World → Prop}
theorem wpList_buildT (hg : o.guard = none) (ho : o.op = .build 92 #[]) {z : Array Value} (hz : ∀ w, (Instr.build 92 #[]).run Try.prog w = .ok (.agg z) w)
    (h : wpList Try.prog ops Q rest (a.put o.dst (.agg z)) w) : wpList Try.prog ops Q (o :: rest) a w := by
  refine wpList_plain hg fun K' hK' => ?_
  unfold Oper.wp execOp
  simp only [ho, List.map_toArray, List.map_nil, Sem.run_bind, hz, Result.andThen_ok]
  exact hK' _ _ h
theorem wpList_boxT (hg : o.guard = none) (x : Operand) (ho : o.op = .box 92 x) {z : Array Value} (hx : a.eval x = .agg z)
    (h : wpList Try.prog ops Q rest (a.put o.dst (.pointer (some ⟨w.heap.size, 0, none⟩))) (w.alloc (.cells z 92))) : wpList Try.prog ops Q (o :: rest) a w := by
  refine wpList_plain hg fun K' hK' => ?_
  have hr : (Instr.box 92 (.agg z)).run Try.prog w = .ok (.pointer (some ⟨w.heap.size, 0, none⟩)) (w.alloc (.cells z 92)) := rfl
  unfold Oper.wp execOp
  simp only [ho, hx, Sem.run_bind, hr, Result.andThen_ok]
  exact hK' _ _ h
end

end Go.Proofs.Qxb6616545a.Mem
