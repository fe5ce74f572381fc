import Derived.Test.Qxb6616545aTl2
import Derived.Outline
namespace Go.Proofs.Qxb6616545a.Mem
set_option linter.unusedVariables false
set_option linter.unusedSimpArgs false
open Go.RowKit
theorem info101 : (Try.prog.info? 101).map (fun i => (i.zero, i.size, i.bytes)) = some (some (.agg #[.int .i32 0, .int .i32 0, .int .i32 0, .int .i32 0, .int .u64 0, .int .i32 0, .int .i32 0, .int .i32 0, .int .i32 0]), 9, 40) := by kernel_rfl
theorem info21 : (Try.prog.info? 21).map (fun i => (i.zero, i.size, i.bytes)) = some (some (.int .i32 0), 1, 4) := by kernel_rfl
theorem info109 : (Try.prog.info? 109).map (fun i => (i.zero, i.size, i.bytes)) = some (some (.agg #[.int .i32 0, .int .i32 0]), 2, 8) := by kernel_rfl
theorem info4 : (Try.prog.info? 4).map (fun i => (i.zero, i.size, i.bytes)) = some (some (.bool false), 1, 1) := by kernel_rfl

theorem build101 (w : World) : (Instr.build 101 #[(0, .int .i32 (-2147483648)), (1, .int .i32 (-1)), (2, .int .i32 (-1))]).run Try.prog w =
    .ok (.agg #[.int .i32 (-2147483648), .int .i32 (-1), .int .i32 (-1), .int .i32 0, .int .u64 0, .int .i32 0, .int .i32 0, .int .i32 0, .int .i32 0]) w := by kernel_rfl
theorem buildSlice42 (w : World) (a b c d e f g h i : Value) : (Instr.buildSlice 42 1 #[(0, .agg #[a, b, c, d, e, f, g, h, i])]).run Try.prog w =
    .ok (.slice (some ⟨w.heap.size, 0, none⟩) 1 1) (w.alloc (.cells #[a, b, c, d, e, f, g, h, i] 101)) := by kernel_rfl
theorem build109 (w : World) (a b : Int) : (Instr.build 109 #[(0, .int .i32 a), (1, .int .i32 b)]).run Try.prog w = .ok (.agg #[.int .i32 a, .int .i32 b]) w := by kernel_rfl
theorem buildSlice43 (w : World) (a b : Int) : (Instr.buildSlice 43 1 #[(0, .agg #[.int .i32 a, .int .i32 b])]).run Try.prog w =
    .ok (.slice (some ⟨w.heap.size, 0, none⟩) 1 1) (w.alloc (.cells #[.int .i32 a, .int .i32 b] 109)) := by kernel_rfl
theorem build96 (w : World) : (Instr.build 96 #[]).run Try.prog w = .ok (.agg #[]) w := by kernel_rfl
theorem build104 (w : World) : (Instr.build 104 #[]).run Try.prog w = .ok (.agg #[.slice none 0 0, .bool false]) w := by kernel_rfl

/-- two rows, one behind the other -/
def cat (k : Nat) (F G : Nat → Value) : Nat → Value := fun j => if j < k then F j else G (j - k)

/-- 'append' to a row of the call's own -/
theorem wpList_app (w : World) {ops : Array Oper} {rest : List Oper} {o : Oper} {a : Act} {Q : Exit → Act → World → Prop} (hgd : o.guard = none) (s x : Operand) (t : TypeId)
    (ho : o.op = .call { callee := .builtin .append, args := #[s, x], argTypes := #[t, t] })
    (e : TypeId) (z : Value) (size bytes : Nat) (ht : Try.prog.underlying t = some (.slice e)) (hinfo : (Try.prog.info? e).map (fun i => (i.zero, i.size, i.bytes)) = some (some z, size, bytes))
    (hzs : z.cells.size = size) (hsz : 0 < size) (B : Nat) (v : Value) (n : Nat) (F : Nat → Value) (hs : a.eval s = v) (hown : Own w B e size v n F)
    (ad : Addr) (m c : Nat) (G : Nat → Value) (hx : a.eval x = .slice (some ad) m c) (hnews : ∀ j, j < m * size → w.cell? (ad.add j) = some (G j)) (h1 : ∀ j, j < m * size → (G j).oneCell' = true)
    (hm : 0 < m) (h63 : n + m ≤ 4194304) (hby : bytes ≤ 64) (hbase : B ≤ w.heap.size)
    (h : ∀ g cap w', Own w' B e size (.slice (some ⟨g, 0, none⟩) (n + m) cap) (n + m) (cat (n * size) F G) → w.grownBy w' v.ownBlock → (v.ownBlock = some g ∨ g = w.heap.size) →
      wpList Try.prog ops Q rest (a.put o.dst (.slice (some ⟨g, 0, none⟩) (n + m) cap)) w') : wpList Try.prog ops Q (o :: rest) a w := by
  obtain ⟨i0, hi, hz0, hz1, hz2⟩ := info_parts hinfo
  obtain ⟨xs, hown, hF⟩ := hown
  have hl : ((List.range (m * size)).map G).length = m * size := by simp
  refine wpList_append_lies w hgd s x t ho B e i0 z size bytes ht hi hz0 hz1 hz2 hzs hsz v n xs hs hown ad m c ((List.range (m * size)).map G) hx hl ?_ ?_ hm (by unfold maxLen; omega) ?_ hbase w.heap.size rfl ?_
  · intro j u hj
    have hj' : j < m * size := by
      have := (List.getElem?_eq_some_iff.1 hj).1
      simpa using this
    rw [hnews j hj']
    simpa [hj'] using hj
  · intro u hu
    obtain ⟨j, hj, rfl⟩ := List.mem_map.1 hu
    exact h1 j (List.mem_range.1 hj)
  · exact Nat.le_trans (Nat.mul_le_mul h63 hby) (by decide)
  · intro g cap w' h2 h3 h4 _
    refine h g cap w' ⟨_, h2, fun j hj => ?_⟩ h3 h4
    have hlx := hown.1
    unfold cat
    by_cases hj' : j < n * size
    · rw [if_pos hj', List.getElem?_append_left (by omega), hF j hj']
    · have hj2 : j - n * size < m * size := by rw [Nat.add_mul] at hj; omega
      rw [if_neg hj', List.getElem?_append_right (by omega), hlx]
      simp [hj2]

/-- the cells of a block that is known whole -/
theorem cells_of_new (w : World) (cs : Array Value) (t : TypeId) (k : Nat) (hk : cs.size = k) : ∀ j, j < k → (w.alloc (.cells cs t)).cell? ((⟨w.heap.size, 0, none⟩ : Addr).add j) = some (cs.getD j undef) := by
  intro j hj
  have := World.news_of_block (w := w.alloc (.cells cs t)) (B := w.heap.size) (cs := cs) (t := t) (fr := (0, 0)) (heap_alloc_new w _) j (cs.getD j undef)
  apply this
  simp [hk, hj]

theorem one_of (cs : Array Value) (k : Nat) (hk : cs.size = k) (h : ∀ u ∈ cs.toList, u.oneCell' = true) : ∀ j, j < k → (cs.getD j undef).oneCell' = true := by
  intro j hj
  apply h
  have : j < cs.size := by omega
  simp [Array.getD, this]

theorem TRow.far {w w1 : World} {B T : Nat} {v : V} (h : TRow w T v) {e : TypeId} {k n : Nat} {x : Value} {F : Nat → Value} (ho : Own w B e k x n F) (he : e ≠ 92) (hg : w.grownBy w1 x.ownBlock) : TRow w1 T v :=
  h.kept hg (Ne.symm (h.ne_own ho he))

theorem own_ge {w : World} {B : Nat} {e : TypeId} {k n : Nat} {x : Value} {F : Nat → Value} (ho : Own w B e k x n F) : ∀ b, x.ownBlock = some b → B ≤ b := fun b hb => (ho.lt b hb).1

theorem nodes_cat {w1 : World} {B : Nat} {x : Value} {n : Nat} {F : Nat → Value} {rk fi de : Nat → Int} (c : Array Value) (hc : c = #[.int .i32 (-2147483648), .int .i32 (-1), .int .i32 (-1), .int .i32 0, .int .u64 0, .int .i32 0, .int .i32 0, .int .i32 0, .int .i32 0])
    (h : Own w1 B 101 9 x (n + 1) (cat (n * 9) F (fun j => c.getD j undef))) (hN : ∀ i, i < n → F (i * 9) = .int .i32 (rk i) ∧ F (i * 9 + 1) = .int .i32 (fi i) ∧ F (i * 9 + 2) = .int .i32 (de i)) :
    NodesAt w1 B x (n + 1) (upd rk n (-2147483648)) (upd fi n (-1)) (upd de n (-1)) := by
  refine ⟨_, h, fun i hi => ?_⟩
  by_cases e : i = n
  · subst e
    simp [cat, upd, hc]
    exact ⟨fun h => by omega, fun h => by omega⟩
  · obtain ⟨r0, r1, r2⟩ := hN i (by omega)
    have n0 : i * 9 < n * 9 := by omega
    have n1 : i * 9 + 1 < n * 9 := by omega
    have n2 : i * 9 + 2 < n * 9 := by omega
    simp only [cat, if_pos n0, if_pos n1, if_pos n2, upd_other _ _ e]
    exact ⟨r0, r1, r2⟩

set_option maxHeartbeats 400000 in
theorem addNode {w : World} {B T : Nat} {v : V} {g : G} (h : TMem w B T v g) (hn : g.n < 1024) :
    Calls Try.prog 19 #[.pointer (some ⟨T, 0, none⟩)] w fun e w' => e = .returned (.tuple #[]) ∧
      (∃ x, TMem w' B T { v with N := x } { g with n := g.n + 1, rk := upd g.rk g.n (-2147483648), fi := upd g.fi g.n (-1), de := upd g.de g.n (-1) }) ∧ Below B w w' := by
  obtain ⟨c6, -, -, -, -, -, -, -⟩ := h.row.cell
  have f6 := h.row.frozen 6
  obtain ⟨F, hO, hN⟩ := id h.N
  obtain ⟨aN, cN, eN, -, -⟩ := hO.form
  rw [eN] at c6 hO
  have HO : Hid (Own w B 101 9 (.slice aN g.n cN) g.n F) := hO
  have HH : Hid (TMem w B T v g) := h
  have HF : Hid (∀ i, i < g.n → F (i * 9) = .int .i32 (g.rk i) ∧ F (i * 9 + 1) = .int .i32 (g.fi i) ∧ F (i * 9 + 2) = .int .i32 (g.de i)) := hN
  have HE : Hid (v.N = .slice aN g.n cN) := eN
  have hlt := h.lt
  have hbt := h.bt
  clear h hN eN hO
  go_enter Try.func19, Try.ntmps19
  go_wp2_with (at_builtin; refine wpList_app _ rfl (.tmp 6) (.tmp 8) 42 rfl 101 _ 9 40 Try.underlying42 info101 rfl (by decide) B _ _ F rfl (HO.out.alloc _) ⟨w.heap.size, 0, none⟩ 1 1 _ rfl (cells_of_new _ _ _ 9 rfl) (one_of _ 9 rfl (by simp [Value.oneCell'])) (by decide) (by omega) (by decide) (by simp; omega) ?_; intro gN' cap' w1 hown1 hgrow1 hloc1; have r1 := TRow.far (HH.out.alloc _).row (HO.out.alloc _) (by decide) hgrow1; have f1 := r1.frozen 6; have c1 := r1.cell.1)
  go_end0
  have hT := HH.out.alloc (.cells #[.int .i32 (-2147483648), .int .i32 (-1), .int .i32 (-1), .int .i32 0, .int .u64 0, .int .i32 0, .int .i32 0, .int .i32 0, .int .i32 0] 101)
  have eN := HE.out
  refine ⟨rfl, ⟨_, TMem.newN hT (by rw [eN]; exact hgrow1) (nodes_cat _ rfl hown1 HF.out)⟩, ?_⟩
  refine (((Below.refl B w).alloc (by omega) _).grown hgrow1 (by simp; omega) (own_ge HO.out)).setCell hbt _
end Go.Proofs.Qxb6616545a.Mem
