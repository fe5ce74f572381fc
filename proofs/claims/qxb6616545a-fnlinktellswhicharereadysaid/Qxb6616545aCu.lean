import Derived.Test.Qxb6616545aCuB
import Derived.Deep.RegionWith
import Derived.BigQuiet
import Derived.Deep.QuietTactic
namespace Go.Proofs.Qxb6616545a.Mem
set_option linter.unusedVariables false
set_option linter.unusedSimpArgs false
open Go.RowKit
open Go.Proofs.Qxb6616545a.Plain

set_option maxRecDepth 20000 in
set_option maxHeartbeats 4000000 in
theorem count_any {w : World} {B T : Nat} {v : V} {g : G} (h : TMem w B T v g) (hn : g.n ≤ 1024) (s : Nat) (hs : s < g.n)
    (R0 : List Nat) (hr : g.r = R0.length) (hrd : ∀ j, j < R0.length → g.rd j = rdOf R0 j) (A : Nat → Bool) (csl dl : Nat → List Nat) (hI : RInv g.n csl A g.un R0) (hG : Grph g.n csl (upd A s true) g dl) (hm21 : g.m ≤ 2097152) (hAs : A s = false)
    (hu : g.u = g.n ∨ (v.U = .slice none 0 0 ∧ ∀ i, i < g.n → A i = false)) (hrk0 : ∀ i, i < g.n → g.rk i = if upd A s true i then 0 else -2147483648)
    (ca : Option Addr) (k cap : Nat) (hk : k ≤ 1048576) (cs : Nat → Nat) (hcsl : csl s = (List.range k).map cs) (hcs0 : ∀ j, j < k → cs j < g.n ∧ cs j ≠ s)
    (hca : 0 < k → ∃ pb po, ca = some ⟨pb, po, none⟩ ∧ pb < B ∧ ∀ j, j < k → w.cell? ⟨pb, po + j, none⟩ = some (.int .i32 (cs j : Int))) :
    Calls Try.prog 27 #[.pointer (some ⟨T, 0, none⟩), .int .i32 (s : Int), .slice ca k cap] w fun e w' => e = .returned (.tuple #[]) ∧
      CPost w w' B T v g csl (upd A s true) := by
  have hcs : ∀ j, j < k → cs j < g.n := fun j hj => (hcs0 j hj).1
  have hrk : ∀ i, i < g.n → g.rk i = 0 ∨ g.rk i = -2147483648 := fun i hi => by rw [hrk0 i hi]; split <;> simp
  have HD : Hid (∀ un', (g.u = g.n → un' = g.un) → RInv g.n csl A un' R0 ∧ waits g.rk un' cs k = (csl s).countP (fun c => !decide (c ∈ R0))) := by
    intro un' he
    have h1 : RInv g.n csl A un' R0 := rinv_grown hI (by
      rcases hu with h | h
      · exact .inl (he h)
      · exact .inr h.2)
    exact ⟨h1, by rw [hcsl]; exact waits_eq h1 hcs0 hrk0⟩
  have hu : g.u = g.n ∨ v.U = .slice none 0 0 := by
    rcases hu with h | h
    · exact .inl h
    · exact .inr h.1
  have HG : Hid (Grph g.n csl (upd A s true) g dl) := hG
  have HS : Hid (A s = false) := hAs
  obtain ⟨aR, cR, eR⟩ := h.readied_form
  have HRd : Hid (g.r = R0.length ∧ (∀ j, j < R0.length → g.rd j = rdOf R0 j) ∧ v.R = .slice aR g.r cR) := ⟨hr, hrd, eR⟩
  clear hr hrd hI hG hAs hrk0 hcsl hcs0 eR
  obtain ⟨gc6, -, -, -, -, -, gc141, -⟩ := h.row.cell
  have gf := h.row.frozen 141
  have hlt := h.lt
  have hbt := h.bt
  obtain ⟨gN, cN, eN⟩ := h.nodes_form (by omega)
  obtain ⟨aU, cU, eU, nU⟩ := h.unready_form
  rw [eN] at gc6
  rw [eU] at gc141
  have HH : Hid (TMem w B T v g) := h
  have HE : Hid (v.N = .slice (some ⟨gN, 0, none⟩) g.n cN) := eN
  have HU : Hid (v.U = .slice aU g.u cU ∧ (aU = none → g.u = 0 ∧ cU = 0)) := ⟨eU, nU⟩
  have HQ : Hid (g.u = g.n ∨ v.U = .slice none 0 0) := hu
  have HC : Hid (∀ j, j < k → cs j < g.n) := hcs
  have HA : Hid (0 < k → ∃ pb po, ca = some ⟨pb, po, none⟩ ∧ pb < B ∧ ∀ j, j < k → w.cell? ⟨pb, po + j, none⟩ = some (.int .i32 (cs j : Int))) := hca
  have HR : Hid (∀ i, i < g.n → g.rk i = 0 ∨ g.rk i = -2147483648) := hrk
  clear h eN eU nU hu hcs hca hrk
  go_enter Try.func27, Try.ntmps27
  go_upto_region 0 with fail
  go_cut [] (fun wd => GrewU w wd B T v g)
  case first =>
    by_cases e : g.u = g.n
    · rw [e] at gc141
      have E0 : Hid (g.u = g.n) := e
      clear e
      go_region_with (go_at_call 29; refine (grow_same _ _ _ _).mono ?_; rintro e w' ⟨rfl, rfl⟩)
      all_goals (go_wp2; go_meet)
      all_goals exact (grewU_same HH.out E0.out (by omega) (by rw [E0.out, ← E0.out]; exact HU.out.1)).drew
    · have e1 : v.U = .slice none 0 0 := by
        rcases HQ.out with h | h
        · exact absurd h e
        · exact h
      have e2 := HU.out.1
      rw [e1] at e2
      simp only [Value.slice.injEq] at e2
      obtain ⟨rfl, e3, rfl⟩ := e2
      rw [← e3] at gc141
      have E1 : Hid (v.U = .slice none 0 0) := e1
      have E2 : Hid (¬ g.u = g.n) := e
      clear e1 e3 e
      go_region_with (go_at_call 29; refine (grow_new _ B g.n hn (by omega) (by simp; omega)).mono ?_; rintro e w' ⟨c, rfl, hi1, hg1⟩; have hr1 : TRow w' T v := TRow.kept (HH.out.drew.row) hg1 (by simp); have hc1 := hr1.cell.2.2.2.2.2.2.1; have hf1 := hr1.frozen 141)
      all_goals (go_wp2; go_meet)
      all_goals exact grewU_new HH.out E2.out E1.out (by omega) hi1 (grown_of_drew hg1)
  case rest =>
    clear gc6 gc141 gf
    obtain ⟨gU, cU', un', hT, hun, hmk, hbel⟩ := hcut
    obtain ⟨gc6, -, -, -, -, -, gc141, gc142⟩ := hT.row.cell
    simp only at gc6 gc141 gc142
    rw [HE.out] at gc6
    have HT : Hid (TMem wc B T { v with U := .slice (some ⟨gU, 0, none⟩) g.n cU' } { g with u := g.n, un := un' }) := hT
    have HN : Hid (g.u = g.n → un' = g.un) := hun
    have HK : Hid (MapsKept w wc) := hmk
    have HL : Hid (Below B w wc) := hbel
    clear hT hun hmk hbel
    go_upto_region 1 with fail
    go_region
    go_wp2
    go_loop [8, 38] (fun ws i => ∃ j : Nat, j ≤ k ∧ i = .int .i64 (j : Int) ∧ ws = .int .i32 (waits g.rk un' cs j : Nat)) (fun _ i => k - (intOf i).toNat)
    case atStart => exact ⟨0, Nat.zero_le _, rfl, rfl⟩
    case round =>
      obtain ⟨j, hj, rfl, rfl⟩ := hrel
      have hw := waits_le g.rk un' cs j
      by_cases hlt : j < k
      · skip
        obtain ⟨pb, po, ec, hpb, hcell⟩ := HA.out (by omega)
        have hc1 : wc.drew.cell? ⟨pb, po + j, none⟩ = some (.int .i32 (cs j : Int)) := (HL.out.drew.cell (by exact hpb)).trans (hcell j hlt)
        have hcn := HC.out j hlt
        obtain ⟨hr0, -, -, -, -⟩ := HT.out.drew.node_cells (gN := gN) (cN := cN) (by exact HE.out) hcn
        have hu0 := (HT.out.drew.unready_cell (gU := gU) (cU := cU') rfl).1 (cs j) hcn
        simp only at hr0 hu0
        have EC : Hid (ca = some ⟨pb, po, none⟩) := ec
        clear ec hcell hpb
        rcases HR.out (cs j) hcn with hz | hz
        · have z1 : 0 ≤ g.rk (cs j) := by omega
          have z2 : g.rk (cs j) ≤ 0 := by omega
          have z3 : (g.rk (cs j) != -2147483648) = true := by rw [hz]; rfl
          by_cases hp : 0 < un' (cs j)
          · have W1 : Hid (waits g.rk un' cs (j + 1) = waits g.rk un' cs j + 1) := waits_yes (.inr hp)
            clear hz
            go_wp2_with (first | (refine wpList_idx _ rfl (.tmp 36) (.tmp 38) 31 21 rfl Try.underlying31 size21 ca k cap .i64 j pb po EC.out rfl rfl hlt ?_) | go_in)
            go_round
            case rel => exact ⟨j + 1, by omega, by go_num, by rw [W1.out]; go_num⟩
            case measure => simp [intOf]; omega
          · have W1 : Hid (waits g.rk un' cs (j + 1) = waits g.rk un' cs j) := waits_no (by omega) (by omega)
            have hp2 : decide (0 < un' (cs j)) = false := decide_eq_false hp
            clear hz
            go_wp2_with (first | (refine wpList_idx _ rfl (.tmp 36) (.tmp 38) 31 21 rfl Try.underlying31 size21 ca k cap .i64 j pb po EC.out rfl rfl hlt ?_) | go_in)
            go_round
            case rel => exact ⟨j + 1, by omega, by go_num, by rw [W1.out]⟩
            case measure => simp [intOf]; omega
        · have z1 : -2147483648 ≤ g.rk (cs j) := by omega
          have z2 : g.rk (cs j) ≤ -2147483648 := by omega
          have z3 : (g.rk (cs j) != -2147483648) = false := by rw [hz]; rfl
          have W1 : Hid (waits g.rk un' cs (j + 1) = waits g.rk un' cs j + 1) := waits_yes (.inl hz)
          clear hz
          go_wp2_with (first | (refine wpList_idx _ rfl (.tmp 36) (.tmp 38) 31 21 rfl Try.underlying31 size21 ca k cap .i64 j pb po EC.out rfl rfl hlt ?_) | go_in)
          go_round
          case rel => exact ⟨j + 1, by omega, by go_num, by rw [W1.out]; go_num⟩
          case measure => simp [intOf]; omega
      · obtain rfl : j = k := by omega
        clear hlt gc6 gc141 gc142
        have hb0 : BMem w wc B T v g gU cU' un' R0 aR cR := BMem.start HT.out HK.out HL.out HRd.out.1 HRd.out.2.1 HRd.out.2.2
        obtain ⟨hi0, hwe⟩ := HD.out un' HN.out
        obtain ⟨hu1, hu2⟩ := hb0.T.unready_cell (gU := gU) (cU := cU') rfl
        have hu3 := hu1 s hs
        have hu4 := hu2 s
        simp only at hu3
        have HB0 : Hid (BMem w wc B T v g gU cU' un' R0 aR cR) := hb0
        have HI0 : Hid (RInv g.n csl A un' R0) := hi0
        have HW : Hid (waits g.rk un' cs j = (csl s).countP (fun c => !decide (c ∈ R0))) := hwe
        clear hb0 hi0 hwe hu1 hu2
        by_cases hz : 0 < waits g.rk un' cs j
        · skip
          go_wp2
          refine bodyPost_ret (v := .tuple #[]) (by simp [results, Try.results27, go_sem]) rfl ?_
          refine ⟨rfl, gU, cU', _, R0, aR, cR, (HB0.out.count s _).drew, ?_⟩
          exact HI0.out.waits hs HS.out (by rw [HW.out]) (by omega)
        · have hz0 : waits g.rk un' cs j = 0 := by omega
          have HZ : Hid ((csl s).countP (fun c => !decide (c ∈ R0)) = 0) := by
            have := HW.out
            unfold Hid
            omega
          have hb1 := (HB0.out.count s 0).drew
          obtain ⟨-, -, -, -, -, -, -, gc142⟩ := hb1.T.row.cell
          have gf142 := hb1.T.row.frozen 142
          have hRl : R0.length ≤ g.n := HI0.out.bound
          simp only at gc142
          have HB1 : Hid (BMem w (wc.setCell ⟨gU, s, none⟩ (.int .i32 0)).drew B T v g gU cU' (upd un' s 0) R0 aR cR) := hb1
          clear hb1
          go_upto_region 13 with (at_builtin; refine wpList_app_one _ (wc.setCell ⟨gU, s, none⟩ (.int .i32 0)).drew rfl (.tmp 72) (.tmp 74) rfl B _ R0.length (rdOf R0) (s : Int) rfl HB1.out.T.R rfl wc.heap.size (by simp) rfl (by omega) (by have := HB1.out.T.lt; omega) ?_; intro gR c1 w1 hi1 hg1 hl1; have hr1 := TRow.far (HB1.out.T.alloc _).row (Own.alloc HB1.out.T.R _) (by decide) hg1; have hc1 := hr1.cell.2.2.2.2.2.2.2; have hf1 := hr1.frozen 142)
          have hb2 := HB1.out.found _ s gR c1 hi1 hg1 hl1
          have hi2 := HI0.out.ready hs HS.out HZ.out 0
          have HO : Hid (OutRel w (w1.setCell ⟨T, 142, none⟩ (.slice (some ⟨gR, 0, none⟩) (R0.length + 1) c1)) B T v g csl (upd A s true) gU cU' R0.length (upd un' s 0) (R0 ++ [s]) (some ⟨gR, 0, none⟩) c1) := ⟨hb2, hi2⟩
          clear hb2 hi2 hi1 hg1 hl1 hr1 hc1 hf1 gf142 gc142 hu3 hu4 HB1 HB0 HI0 HZ HW hz hz0 HT HN HK HL HA HC HR HD HRd HU HQ HH
          go_loopw [11] (fun at_ wr => ∃ (p : Nat) (un : Nat → Int) (R : List Nat) (aR : Option Addr) (cR : Nat), at_ = .int .i64 (p : Int) ∧ p ≤ R.length ∧ OutRel w wr B T v g csl (upd A s true) gU cU' p un R aR cR) (fun at_ _ => g.n - (intOf at_).toNat)
          case atStart => exact ⟨R0.length, _, R0 ++ [s], _, c1, rfl, by simp, HO.out⟩
          case round =>
            clear HO
            obtain ⟨p, un, R, aR, cR, rfl, hp, ho⟩ := hrel
            have hRn : R.length ≤ g.n := ho.2.bound
            obtain ⟨gc6, gc7, -, -, -, -, -, gc142⟩ := ho.1.T.row.cell
            simp only at gc6 gc7 gc142
            have HO : Hid (OutRel w wr B T v g csl (upd A s true) gU cU' p un R aR cR) := ho
            clear ho
            by_cases hlt : p < R.length
            · obtain ⟨gR', rfl, hcell⟩ := HO.out.1.readied hlt
              obtain ⟨u, hu⟩ : ∃ u, u = R.getD p 0 := ⟨_, rfl⟩
              rw [← hu] at hcell
              have hun : u < g.n := by rw [hu]; exact HO.out.2.lt _ (getD_mem hlt)
              have hin : InRel w wr B T v g csl (upd A s true) gU cU' p u un R (some ⟨gR', 0, none⟩) cR [] := ⟨HO.out.1, by
                have := HO.out.2
                refine ⟨fun i hi hA => ?_, this.mem, this.nd, this.lt, this.ord⟩
                rw [this.cnt i hi hA]
                simp [rel], hlt, hu.symm⟩
              obtain ⟨-, hn1, hn2, -, -⟩ := HO.out.1.T.node_cells (gN := gN) (cN := cN) (by exact HE.out) hun
              simp only at hn1 hn2
              have HI : Hid (InRel w wr B T v g csl (upd A s true) gU cU' p u un R (some ⟨gR', 0, none⟩) cR []) := hin
              have HUu : Hid (u = R.getD p 0) := hu
              clear hin hu HO
              go_upto_region 16 with fail
              go_region
              go_wp2_with fail
              go_loopg [13, 14] (dl u).length (fun gk i c wq => InLoop w wq B T v g csl (upd A s true) gU cU' p u dl gk i c)
              case atStart => exact inLoop_start HI.out.drew HG.out hun
              case round =>
                clear HI hn1 hn2 hcell gc6 gc7 gc142
                obtain ⟨un1, R1, aR1, cR1, done, hin, hcase⟩ := hrel
                have hRn1 : R1.length ≤ g.n := hin.2.1.bound
                have hpl := hin.2.2.1
                rcases hcase with ⟨x, L, c0, hd, rfl, rfl, hch, hgk⟩ | ⟨i0, c0, hd, rfl, hi0, rfl, hgk⟩
                · obtain ⟨hx, hge, hne, hze⟩ := inRel_count hin HG.out hun hd
                  obtain ⟨hu1, hu2⟩ := hin.1.T.unready_cell (gU := gU) (cU := cU') rfl
                  have hux := hu1 x hx
                  have huf := hu2 x
                  simp only at hux
                  have hb1 := hin.1.count x (un1 x - 1)
                  obtain ⟨-, -, -, -, -, -, -, gc142⟩ := hb1.T.row.cell
                  have gf142 := hb1.T.row.frozen 142
                  simp only at gc142
                  have HB1 : Hid (BMem w (wr.setCell ⟨gU, x, none⟩ (.int .i32 (un1 x - 1))) B T v g gU cU' (upd un1 x (un1 x - 1)) R1 aR1 cR1) := hb1
                  have HNE : Hid (un1 x - 1 ≠ 0 → InRel w (wr.setCell ⟨gU, x, none⟩ (.int .i32 (un1 x - 1))) B T v g csl (upd A s true) gU cU' p u (upd un1 x (un1 x - 1)) R1 aR1 cR1 (done ++ [x])) := hne
                  have HZE : Hid (un1 x - 1 = 0 → BInv g.n csl (upd A s true) (upd un1 x (un1 x - 1)) (R1 ++ [x]) (rel (R1 ++ [x]) p u (done ++ [x])) ∧ p < (R1 ++ [x]).length ∧ (R1 ++ [x]).getD p 0 = u) := hze
                  have HD : Hid (dl u = done ++ x :: L ∧ Chain g.m g.cd g.cn c0 L ∧ gk = L.length + 1) := ⟨hd, hch, hgk⟩
                  have hub : un1 x ≤ 1048576 := inRel_small hin HG.out hun hd
                  clear hin hne hze hu1 hu2 hb1 hd hch hgk
                  go_upto_if 116 with fail
                  go_cut [] (fun wd => ∃ R2 aR2 cR2, InRel w wd B T v g csl (upd A s true) gU cU' p u (upd un1 x (un1 x - 1)) R2 aR2 cR2 (done ++ [x]))
                  case first =>
                    by_cases hz : un1 x ≤ 1
                    · go_wp2_with (at_builtin; refine wpList_app_one _ (wr.setCell ⟨gU, x, none⟩ (.int .i32 (un1 x - 1))) rfl (.tmp 121) (.tmp 123) rfl B _ R1.length (rdOf R1) (x : Int) rfl HB1.out.T.R rfl wr.heap.size (by simp) rfl (by omega) (by have := HB1.out.T.lt; omega) ?_; intro gR2 c2 w2 hi2 hg2 hl2; have hr2 := TRow.far (HB1.out.T.alloc _).row (Own.alloc HB1.out.T.R _) (by decide) hg2; have hc2 := hr2.cell.2.2.2.2.2.2.2; have hf2 := hr2.frozen 142)
                      go_meet
                      case rel =>
                        obtain ⟨z1, z2, z3⟩ := HZE.out (by omega)
                        exact ⟨R1 ++ [x], _, c2, HB1.out.found _ x gR2 c2 hi2 hg2 hl2, z1, z2, z3⟩
                    · go_wp2
                      go_meet
                      case rel => exact ⟨R1, aR1, cR1, HNE.out (by omega)⟩
                  case rest =>
                    clear hux huf gc142 gf142 HB1 HNE HZE
                    obtain ⟨R2, aR2, cR2, hin⟩ := hcut
                    have hpl2 := hin.2.2.1
                    have hRn2 : R2.length ≤ g.n := hin.2.1.bound
                    cases L with
                    | nil =>
                      have hc0 : c0 < 0 := HD.out.2.1
                      have HI : Hid (InRel w wc B T v g csl (upd A s true) gU cU' p u (upd un1 x (un1 x - 1)) R2 aR2 cR2 (done ++ [x])) := hin
                      clear hin
                      go_wp2
                      go_roundw
                      case rel => exact ⟨p + 1, _, R2, aR2, cR2, by go_num, by omega, inRel_next HI.out HG.out hun HD.out.1.symm⟩
                      case measure => simp [intOf]; omega
                    | cons y L' =>
                      obtain ⟨q, hq, hqm, hqd, hch⟩ := HD.out.2.1
                      obtain ⟨gC, cC, eC⟩ := hin.1.T.cites_form (by simp only; omega)
                      obtain ⟨gc6, gc7, -, -, -, -, -, -⟩ := hin.1.T.row.cell
                      rw [eC] at gc7
                      obtain ⟨hq1, hq2⟩ := hin.1.T.cites_cells eC (q := q) hqm
                      simp only at gc7 hq1 hq2
                      rw [hqd] at hq1
                      have hq31 : (q : Int) ≤ 2147483647 := by have := hm21; omega
                      have HI : Hid (InRel w wc B T v g csl (upd A s true) gU cU' p u (upd un1 x (un1 x - 1)) R2 aR2 cR2 (done ++ [x])) := hin
                      have HX : Hid (c0 = (q : Int) ∧ Chain g.m g.cd g.cn (g.cn q) L') := ⟨hq, hch⟩
                      clear hin hch hqd eC gc6
                      subst hq
                      go_upto_region 22 with fail
                      go_region
                      go_wp2
                      go_roundg (L'.length + 1)
                      case measure => have := HD.out.2.2; simp at this; omega
                      case rel => exact ⟨_, R2, aR2, cR2, done ++ [x], HI.out.drew, .inl ⟨y, L', g.cn q, by rw [HD.out.1]; simp, rfl, rfl, HX.out.2, rfl⟩⟩
                · skip
                  have HI : Hid (InRel w wr B T v g csl (upd A s true) gU cU' p u un1 R1 aR1 cR1 done ∧ done = dl u) := ⟨hin, hd⟩
                  clear hin hd hgk
                  go_wp2
                  go_roundw
                  case rel => exact ⟨p + 1, un1, R1, aR1, cR1, by go_num, by omega, inRel_next HI.out.1 HG.out hun HI.out.2⟩
                  case measure => simp [intOf]; omega
            · skip
              go_wp2
              go_end0
              obtain rfl : p = R.length := by omega
              exact ⟨rfl, gU, cU', un, R, aR, cR, HO.out.1, HO.out.2.done⟩
end Go.Proofs.Qxb6616545a.Mem
