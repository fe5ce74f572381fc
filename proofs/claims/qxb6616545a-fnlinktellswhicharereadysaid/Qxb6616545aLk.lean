import Derived.Test.Qxb6616545aLkB
import Derived.Test.Qxb6616545aCu
import Derived.Deep.RegionLaw
namespace Go.Proofs.Qxb6616545a.Mem
set_option linter.unusedVariables false
set_option linter.unusedSimpArgs false
open Go.RowKit
open Go.Proofs.Qxb6616545a.Plain

set_option maxRecDepth 20000 in
set_option maxHeartbeats 4000000 in
theorem link_any {w : World} {B T : Nat} {v : V} {g : G} (h : TMem w B T v g) (hm : Maps2 w B v g.n g.hd g.ms) (hn : g.n ≤ 1024) (s : Nat) (hs : s < g.n)
    (R0 : List Nat) (hr : g.r = R0.length) (hrd : ∀ j, j < R0.length → g.rd j = rdOf R0 j) (A : Nat → Bool) (csl dl : Nat → List Nat) (hI : RInv g.n csl A g.un R0)
    (ca : Option Addr) (k cap : Nat) (hk : k ≤ 1048576) (cs : Nat → Nat) (hcsl : csl s = (List.range k).map cs) (hcs0 : ∀ j, j < k → cs j < g.n ∧ cs j ≠ s)
    (hG : Grph g.n csl (upd A s true) (lk s cs k (linkHead s k g)) dl) (hm21 : g.m + k ≤ 2097152) (hl21 : g.l + 1 + k ≤ 4194304) (hAs : A s = false)
    (hu : g.u = g.n ∨ (v.U = .slice none 0 0 ∧ ∀ i, i < g.n → A i = false)) (hrk0 : ∀ i, i < g.n → g.rk i = if upd A s true i then 0 else -2147483648)
    (hnil : ca = none → k = 0 ∧ cap = 0)
    (hca : ∀ p, ca = some p → 0 < k → ∃ pb po, p = ⟨pb, po, none⟩ ∧ pb < B ∧ ∀ j, j < k → w.cell? ⟨pb, po + j, none⟩ = some (.int .i32 (cs j : Int))) :
    Calls Try.prog 22 #[.pointer (some ⟨T, 0, none⟩), .int .i32 (s : Int), .slice ca k cap, .agg #[.slice none 0 0, .bool false]] w fun e w' => e = .returned (.tuple #[]) ∧
      LPost w w' B T g s k cs csl (upd A s true) := by
  obtain ⟨gc6, gc7, gc78, gc103, gc139, gc140, gc141, gc142⟩ := h.row.cell
  have gf1 := h.row.frozen 139
  have gf2 := h.row.frozen 140
  have hlt := h.lt
  have hbt := h.bt
  have HH : Hid (TMem w B T v g) := h
  have HM : Hid (Maps2 w B v g.n g.hd g.ms) := hm
  have HCS : Hid (∀ j, j < k → cs j < g.n ∧ cs j ≠ s) := hcs0
  have HNL : Hid (ca = none → k = 0 ∧ cap = 0) := hnil
  have HCA : Hid (∀ p, ca = some p → 0 < k → ∃ pb po, p = ⟨pb, po, none⟩ ∧ pb < B ∧ ∀ j, j < k → w.cell? ⟨pb, po + j, none⟩ = some (.int .i32 (cs j : Int))) := hca
  have HCT : Hid (g.r = R0.length ∧ (∀ j, j < R0.length → g.rd j = rdOf R0 j) ∧ RInv g.n csl A g.un R0 ∧ csl s = (List.range k).map cs ∧ Grph g.n csl (upd A s true) (lk s cs k (linkHead s k g)) dl ∧ A s = false ∧
      (g.u = g.n ∨ (v.U = .slice none 0 0 ∧ ∀ i, i < g.n → A i = false)) ∧ (∀ i, i < g.n → g.rk i = if upd A s true i then 0 else -2147483648)) := ⟨hr, hrd, hI, hcsl, hG, hAs, hu, hrk0⟩
  clear h hm hr hrd hI hcsl hcs0 hG hAs hu hrk0 hnil hca
  go_enter Try.func22, Try.ntmps22
  go_upto_if 14 with (refine wpList_mapnil _ rfl rfl v.H rfl ?_)
  go_frame
  have hmm := @run_makeMap Try.prog
  go_cut [] (fun wc => ∃ v' bH bM, LMem w wc B T v' g bH bM ∧ BoxAt wc w.heap.size ∧ v'.U = v.U)
  case first =>
    rcases HM.out with ⟨eH, eM, e1, e2⟩ | ⟨bH, bM, hM⟩
    · rw [eH]
      have hT3 := ((HH.out.alloc (.cells #[.slice none 0 0, .bool false] 104)).alloc (.map #[] 0)).alloc (.map #[] 0)
      have gf3 := hT3.row.frozen 139
      have gf4 := hT3.row.frozen 140
      obtain ⟨-, -, -, -, gc3, gc4, -, -⟩ := hT3.row.cell
      clear hT3
      go_wp2
      go_meet
      case rel =>
        obtain ⟨v', bH, bM, r1, r2, r3, r4⟩ := maps_new (HH.out.alloc (.cells #[.slice none 0 0, .bool false] 104)) g.hd g.ms e1 e2 w.heap.size (BoxAt.made w)
        simp only [World.size_alloc] at r1 r2 r3
        exact ⟨v', bH, bM, ⟨r1, r2, (((((Below.refl B w).alloc (by omega) _).alloc (by simp; omega) _).alloc (by simp; omega) _).setCell hbt _).setCell hbt _⟩, r3, r4⟩
    · rw [hM.eH]
      go_wp2
      go_meet
      case rel =>
        exact ⟨v, bH, bM, ⟨HH.out.alloc _, hM.alloc _, (Below.refl B w).alloc (by omega) _⟩, BoxAt.made w, rfl⟩
  case rest =>
    clear hmm gc6 gc7 gc78 gc103 gc139 gc140 gc141 gc142 gf1 gf2
    clear HH HM
    obtain ⟨v1, bH, bM, hL, hB, hvU⟩ := hcut
    obtain ⟨gc6, gc7, gc78, gc103, gc139, gc140, gc141, gc142⟩ := hL.T.row.cell
    rw [hL.M.eH] at gc139
    rw [hL.M.eM] at gc140
    have HL : Hid (LMem w wc B T v1 g bH bM) := hL
    have HB : Hid (BoxAt wc w.heap.size) := hB
    have HV : Hid (v1.U = v.U) := hvU
    clear hL hB hvU
    go_upto_region 4 with (at_delete; refine wpList_set_del _ rfl _ _ rfl bM g.n g.ms s rfl HL.out.M.M hn hs rfl ?_; intro w1 hs1 hg1)
    go_frame
    have hL1 := HL.out.missing hs1 hg1
    have hB1 := HB.out.kept hg1 (by have := HB.out.ne_set HL.out.M.M; simp [this])
    clear hg1 hs1 gc6 gc7 gc78 gc103 gc139 gc140 gc141 gc142 HL HB
    obtain ⟨gN, cN, eN⟩ := hL1.T.nodes_form (by simp only; omega)
    obtain ⟨gc6, -, -, gc103, gc139, -, -, -⟩ := hL1.T.row.cell
    rw [hL1.M.eH] at gc139
    rw [eN] at gc6
    obtain ⟨-, n1, -, -, -⟩ := hL1.T.node_cells eN hs
    simp only at gc6 n1
    have HL : Hid (LMem w w1 B T v1 { g with ms := upd g.ms s false } bH bM) := hL1
    have HB : Hid (BoxAt w1 w.heap.size) := hB1
    have HE : Hid (v1.N = .slice (some ⟨gN, 0, none⟩) g.n cN) := eN
    clear hL1 hB1 eN
    go_upto_if 36 with fail
    go_cut [] (fun wd => LMem w wd B T v1 { g with hd := if g.fi s < 0 then upd g.hd s true else g.hd, ms := upd g.ms s false } bH bM ∧ BoxAt wd w.heap.size)
    case first =>
      by_cases hf : g.fi s < 0
      · go_wp2_with (at_mapUpdate; refine wpList_set_put _ rfl _ _ _ rfl bH g.n g.hd s rfl HL.out.M.H hn hs rfl rfl ?_; intro w2 hs2 hg2)
        go_frame
        go_meet
        case rel =>
          rw [if_pos hf]
          exact ⟨HL.out.heads hs2 hg2, HB.out.kept hg2 (by have := HB.out.ne_set HL.out.M.H; simp [this])⟩
      · go_wp2
        go_meet
        case rel =>
          rw [if_neg (by omega)]
          exact ⟨HL.out, HB.out⟩
    case rest =>
      clear n1 gc6 gc103 gc139 HL HB
      obtain ⟨hL, hB⟩ := hcut
      obtain ⟨gc6, -, gc78, gc103, -, -, -, -⟩ := hL.T.row.cell
      obtain ⟨gb0, gb1⟩ := hB.cell
      obtain ⟨g1, hg1⟩ : ∃ g1 : G, g1 = { g with hd := if g.fi s < 0 then upd g.hd s true else g.hd, ms := upd g.ms s false } := ⟨_, rfl⟩
      rw [← hg1] at hL
      have en : g1.n = g.n := by rw [hg1]
      have el : g1.l = g.l := by rw [hg1]
      have HL : Hid (LMem w wc B T v1 g1 bH bM) := hL
      have HG1 : Hid (g1 = { g with hd := if g.fi s < 0 then upd g.hd s true else g.hd, ms := upd g.ms s false }) := hg1
      have HEN : Hid (g1.n = g.n ∧ g1.l = g.l) := ⟨en, el⟩
      clear hL hB hg1 en el
      go_upto_region 10 with (go_in)
      obtain ⟨aL, cL, eL⟩ := HL.out.T.lists_form
      have hL2 := HL.out.alloc (.cells #[.slice none 0 0, .bool false] 104)
      obtain ⟨fc6, -, fc78, -, -, -, -, -⟩ := hL2.T.row.cell
      rw [HE.out] at fc6
      rw [eL] at fc78
      obtain ⟨-, -, -, ⟨y3, n3⟩, nf⟩ := hL2.T.node_cells (gN := gN) (cN := cN) (by rw [HEN.out.1]; exact HE.out) (i := s) (by rw [HEN.out.1]; exact hs)
      have nf3 := nf (s * 9 + 3)
      have HL2 : Hid (LMem w (wc.alloc (.cells #[.slice none 0 0, .bool false] 104)) B T v1 g1 bH bM) := hL2
      have HEL : Hid (v1.L = .slice aL g1.l cL) := eL
      clear hL2 gc6 gc78 gc103 gb0 gb1 nf eL HL
      go_cut [] (fun wd => LMem w wd B T v1 g1 bH bM)
      case first =>
        go_region
        all_goals (go_wp2; go_meet)
        all_goals exact (HL2.out.causes (by rw [HEN.out.1]; exact HE.out) (by rw [HEN.out.1]; exact hs) _).drew
      case rest =>
        clear HL2 n3 nf3 fc6 fc78
        have HL : Hid (LMem w wc B T v1 g1 bH bM) := hcut
        obtain ⟨-, -, gc78, -, -, -, -, -⟩ := hcut.T.row.cell
        rw [HEL.out] at gc78
        have gf78 := hcut.T.row.frozen 78
        obtain ⟨FL, hOL⟩ := hcut.T.L
        rw [HEL.out] at hOL
        have HOL : Hid (Own wc B 21 1 (.slice aL g1.l cL) g1.l FL) := hOL
        clear hcut hOL
        go_upto_region 12 with (at_builtin; refine wpList_app_row1 _ wc rfl (.tmp 91) (.tmp 95) rfl B _ g1.l _ rfl ⟨FL, HOL.out⟩ rfl wc.heap.size rfl rfl (by have := HEN.out.2; omega) (by have := HL.out.T.lt; omega) ?_; intro gL c1 w1 hi1 hg1 hl1; have hr1 := TRow.far (HL.out.alloc _).T.row (Own.alloc HOL.out _) (by decide) hg1; have hc1 := hr1.cell.2.2.1; have hf1 := hr1.frozen 78)
        have hL3 := (HL.out.alloc (.cells #[.int .i32 (k : Int)] 21)).lists (by rw [HEL.out]; exact hg1) hi1 (by rw [HEL.out]; exact hl1)
        have HL3 : Hid (LMem w (w1.setCell ⟨T, 78, none⟩ (.slice (some ⟨gL, 0, none⟩) (g1.l + 1) c1)) B T { v1 with L := .slice (some ⟨gL, 0, none⟩) (g1.l + 1) c1 } { g1 with l := g1.l + 1 } bH bM) := hL3
        obtain ⟨-, -, gc78b, -, -, -, -, -⟩ := hL3.T.row.cell
        have gf78b := hL3.T.row.frozen 78
        simp only at gc78b
        obtain ⟨FM, hOM⟩ := hL3.T.L
        simp only at hOM
        have HOM : Hid (Own (w1.setCell ⟨T, 78, none⟩ (.slice (some ⟨gL, 0, none⟩) (g1.l + 1) c1)) B 21 1 (.slice (some ⟨gL, 0, none⟩) (g1.l + 1) c1) (g1.l + 1) FM) := hOM
        clear hL3 hi1 hg1 hl1 hr1 hc1 hf1 HL gc78 gf78 HOL hOM
        go_upto_region 13 with (at_builtin; refine wpList_app_ints _ rfl (.tmp 103) (.tmp 104) rfl B _ (g1.l + 1) rfl ⟨FM, HOM.out⟩ ca k cap (fun j => (cs j : Int)) rfl HNL.out (args_cells HL3.out.L HCA.out) (by have := HEN.out.2; omega) (by have := HL3.out.T.lt; omega) ?_; intro a2 c2 w2 hi2 hg2 hl2; have hr2 := TRow.far HL3.out.T.row HOM.out (by decide) hg2; have hc2 := hr2.cell.2.2.1; have hf2 := hr2.frozen 78)
        have hL4 := HL3.out.lists hg2 hi2 hl2
        obtain ⟨g2, hg2e⟩ : ∃ g2 : G, g2 = { g1 with l := g1.l + 1 + k } := ⟨_, rfl⟩
        have ehd : g2 = linkHead s k g := by rw [hg2e, HG1.out]; rfl
        have hL5 : LMem w (w2.setCell ⟨T, 78, none⟩ (.slice a2 (g1.l + 1 + k) c2)) B T { v1 with L := .slice a2 (g1.l + 1 + k) c2 } g2 bH bM := by rw [hg2e]; exact hL4
        have HL5 : Hid (LMem w (w2.setCell ⟨T, 78, none⟩ (.slice a2 (g1.l + 1 + k) c2)) B T { v1 with L := .slice a2 (g1.l + 1 + k) c2 } g2 bH bM) := hL5
        have HG2 : Hid (g2 = linkHead s k g) := ehd
        clear hL4 hL5 hi2 hg2 hl2 hr2 hc2 hf2 HL3 HOM gc78b gf78b hg2e ehd HG1
        go_wp2_with fail
        have hgs := lk_same s cs g2
        have hn2 : g2.n = g.n := by rw [HG2.out]; rfl
        have hm2 : g2.m = g.m := by rw [HG2.out]; rfl
        have hrk2 : ∀ i, i < g.n → g2.rk i = 0 ∨ g2.rk i = -2147483648 := fun i hi => by rw [HG2.out]; show g.rk i = 0 ∨ g.rk i = _; rw [HCT.out.2.2.2.2.2.2.2 i hi]; split <;> simp
        have HGS : Hid ((∀ j, (lk s cs j g2).n = g.n ∧ (lk s cs j g2).rk = g2.rk ∧ (lk s cs j g2).m ≤ g.m + j) ∧ ∀ i, i < g.n → g2.rk i = 0 ∨ g2.rk i = -2147483648) := ⟨fun j => ⟨(hgs j).1.trans hn2, (hgs j).2.1, by have := (hgs j).2.2.2.2.2.2.2; omega⟩, hrk2⟩
        clear hgs hn2 hm2 hrk2 HEL HEN
        go_loopw [110] (fun i wr => ∃ (j : Nat) (vj : V), i = .int .i64 (j : Int) ∧ j ≤ k ∧ LMem w wr B T vj (lk s cs j g2) bH bM ∧ vj.N = .slice (some ⟨gN, 0, none⟩) g.n cN ∧ vj.U = v.U) (fun i _ => k - (intOf i).toNat)
        case atStart => exact ⟨0, _, rfl, Nat.zero_le _, HL5.out, HE.out, HV.out⟩
        case round =>
          clear HL5 HE HV
          obtain ⟨j, vj, rfl, hj, hLj, hvN, hvU⟩ := hrel
          by_cases hlt : j < k
          · obtain ⟨p, hp⟩ : ∃ p, ca = some p := by
              cases hca : ca with
              | none => have := (HNL.out hca).1; omega
              | some p => exact ⟨p, rfl⟩
            obtain ⟨pb, po, hpe, hpb, hcell⟩ := HCA.out p hp (by omega)
            have hc1 : wr.cell? ⟨pb, po + j, none⟩ = some (.int .i32 (cs j : Int)) := (hLj.L.cell (by exact hpb)).trans (hcell j hlt)
            have hcn := (HCS.out j hlt).1
            obtain ⟨gj, hgj⟩ : ∃ gj : G, gj = lk s cs j g2 := ⟨_, rfl⟩
            rw [← hgj] at hLj
            have hjn : gj.n = g.n := by rw [hgj]; exact (HGS.out.1 j).1
            have hjm : gj.m ≤ g.m + j := by rw [hgj]; exact (HGS.out.1 j).2.2
            obtain ⟨gc6, gc7, -, -, gc139, gc140, -, -⟩ := hLj.T.row.cell
            rw [hvN] at gc6
            rw [hLj.M.eH] at gc139
            rw [hLj.M.eM] at gc140
            obtain ⟨hr0, hr1, hr2, -, hrf⟩ := hLj.T.node_cells (gN := gN) (cN := cN) (by rw [hjn]; exact hvN) (i := cs j) (by rw [hjn]; exact hcn)
            have hrkj : gj.rk (cs j) = 0 ∨ gj.rk (cs j) = -2147483648 := by rw [hgj, (HGS.out.1 j).2.1]; exact HGS.out.2 _ hcn
            have EC : Hid (ca = some ⟨pb, po, none⟩) := by unfold Hid; rw [hp, hpe]
            have HLJ : Hid (LMem w wr B T vj gj bH bM) := hLj
            have HGJ : Hid (gj = lk s cs j g2) := hgj
            have HJN : Hid (gj.n = g.n) := hjn
            have HVN : Hid (vj.N = .slice (some ⟨gN, 0, none⟩) g.n cN) := hvN
            have HVU : Hid (vj.U = v.U) := hvU
            have HRK : Hid (gj.rk (cs j) = 0 ∨ gj.rk (cs j) = -2147483648) := hrkj
            have hrf1 := hrf (cs j * 9 + 1)
            clear hp hpe hcell hpb hLj hgj hjn hvN hvU hrkj hrf
            go_upto_if 120 with (first | (refine wpList_idx _ rfl (.tmp 108) (.tmp 110) 31 21 rfl Try.underlying31 size21 ca k cap .i64 j pb po EC.out rfl rfl hlt ?_) | go_in)
            go_cut [] (fun wd => LMem w wd B T vj (halfStep gj (cs j)) bH bM)
            case first =>
              rcases HRK.out with hz | hz
              · have z1 : 0 ≤ gj.rk (cs j) := by omega
                have z2 : gj.rk (cs j) ≤ 0 := by omega
                have z3 : (gj.rk (cs j) != -2147483648) = true := by rw [hz]; rfl
                have Z : Hid (gj.rk (cs j) ≠ -2147483648) := by unfold Hid; omega
                clear hz
                by_cases hf : gj.fi (cs j) < 0
                · go_wp2_with (at_delete; refine wpList_set_del _ rfl _ _ rfl bH gj.n gj.hd (cs j) rfl HLJ.out.M.H (by rw [HJN.out]; exact hn) (by rw [HJN.out]; exact hcn) rfl ?_; intro w3 hs3 hg3)
                  go_frame
                  go_meet
                  case rel =>
                    unfold halfStep
                    rw [if_pos ⟨Z.out, hf⟩, if_neg Z.out]
                    exact HLJ.out.heads hs3 hg3
                · go_wp2
                  go_meet
                  case rel =>
                    unfold halfStep
                    rw [if_neg (by intro h; omega), if_neg Z.out]
                    exact HLJ.out
              · have z1 : -2147483648 ≤ gj.rk (cs j) := by omega
                have z2 : gj.rk (cs j) ≤ -2147483648 := by omega
                have z3 : (gj.rk (cs j) != -2147483648) = false := by rw [hz]; rfl
                have Z : Hid (gj.rk (cs j) = -2147483648) := hz
                clear hz
                go_wp2_with (at_mapUpdate; refine wpList_set_put _ rfl _ _ _ rfl bM gj.n gj.ms (cs j) rfl HLJ.out.M.M (by rw [HJN.out]; exact hn) (by rw [HJN.out]; exact hcn) rfl rfl ?_; intro w3 hs3 hg3)
                go_frame
                go_meet
                case rel =>
                  unfold halfStep
                  rw [if_neg (by intro h; exact h.1 Z.out), if_pos Z.out]
                  exact HLJ.out.missing hs3 hg3
            case rest =>
              clear gc6 gc7 gc139 gc140 hr0 hr1 hr2 hc1 hrf1 EC HLJ HRK
              obtain ⟨gh, hgh⟩ : ∃ gh : G, gh = halfStep gj (cs j) := ⟨_, rfl⟩
              rw [← hgh] at hcut
              have hhn : gh.n = g.n := by rw [hgh]; exact HJN.out
              have hhm : gh.m = gj.m := by rw [hgh]; rfl
              have HGH : Hid (lk s cs (j + 1) g2 = restStep s gh (cs j)) := by unfold Hid; rw [hgh, HGJ.out]; rfl
              have hmb : gh.m ≤ 2097151 := by omega
              obtain ⟨gc6, gc7, -, -, -, -, -, -⟩ := hcut.T.row.cell
              rw [HVN.out] at gc6
              obtain ⟨-, hr1, hr2, -, hrf⟩ := hcut.T.node_cells (gN := gN) (cN := cN) (by rw [hhn]; exact HVN.out) (i := cs j) (by rw [hhn]; exact hcn)
              have hrf1 := hrf (cs j * 9 + 1)
              have HLJ : Hid (LMem w wc B T vj gh bH bM) := hcut
              have HHN : Hid (gh.n = g.n) := hhn
              clear hcut hgh hhn hhm hrf HGJ HJN hjm
              by_cases hf : gh.fi (cs j) < 0
              · skip
                go_wp2
                go_roundw
                case rel =>
                  refine ⟨j + 1, vj, by go_num, by omega, ?_, HVN.out, HVU.out⟩
                  rw [HGH.out]
                  unfold restStep
                  rw [if_pos hf]
                  exact HLJ.out.first (by rw [HHN.out]; exact HVN.out) (by rw [HHN.out]; exact hcn) _
                case measure => simp [intOf]; omega
              · obtain ⟨aC, cC, FC, eC, hOC, hFC⟩ := HLJ.out.T.cites_any
                rw [eC] at gc7
                have gf7 := HLJ.out.T.row.frozen 7
                have HOC : Hid (Own wc B 109 2 (.slice aC gh.m cC) gh.m FC ∧ (∀ i, i < gh.m → FC (i * 2) = .int .i32 (gh.cd i) ∧ FC (i * 2 + 1) = .int .i32 (gh.cn i)) ∧ vj.C = .slice aC gh.m cC) := ⟨hOC, hFC, eC⟩
                have hTl := HLJ.out.T.lt
                have hgl : gN < wc.heap.size := by
                  obtain ⟨F, hO⟩ := HLJ.out.T.own_nodes
                  exact (hO.lt gN (by rw [HVN.out]; rfl)).2
                clear hOC hFC eC hrf1
                go_upto_region 22 with fail
                go_cut [] (fun wd => ∃ gC2 cC2, LMem w wd B T { vj with C := .slice (some ⟨gC2, 0, none⟩) (gh.m + 1) cC2 } { gh with m := gh.m + 1, cd := upd gh.cd gh.m (s : Int), cn := upd gh.cn gh.m (gh.de (cs j)) } bH bM)
                case first =>
                  go_region_law ((refine step_app _ (by rfl) (.tmp 162) (.tmp 173) 43 (by rfl) 109 _ 2 8 Try.underlying43 info109 (by rfl) (by decide) B _ gh.m FC (by rfl) (by first | exact (HOC.out.1.alloc _).drew | exact HOC.out.1.drew.alloc _) ⟨wc.heap.size, 0, none⟩ 1 1 (fun i => #[Value.int .i32 (s : Int), Value.int .i32 (gh.de (cs j))].getD i undef) (by rfl) (by first | exact cells_of_new wc _ _ 2 rfl | exact cells_of_new wc.drew _ _ 2 rfl) (one2 _ _) (by decide) (by omega) (by decide) (by have := HLJ.out.T.lt; simp; omega) ?_; intro gC2 cC2 w3 hO3 hg3 hl3; have hcf := cite_facts (HLJ.out.alloc _).drew HOC.out.2.2 (by exact hg3) (by rw [HHN.out]; exact HVN.out) (c := cs j) (by rw [HHN.out]; exact hcn); rw [HHN.out] at hcf; obtain ⟨⟨hk6, hk7, hkn⟩, hkf⟩ := hcf))
                  all_goals (go_wp2; go_meet)
                  all_goals exact ⟨gC2, cC2, (HLJ.out.alloc _).drew.cite _ _ HOC.out.2.1 (by rw [HOC.out.2.2]; exact hg3) hO3⟩
                case rest =>
                  clear gc6 gc7 gf7 hr1 hr2 hTl hgl HOC HLJ
                  obtain ⟨gC2, cC2, hL6⟩ := hcut
                  obtain ⟨gc6, gc7, -, -, -, -, -, -⟩ := hL6.T.row.cell
                  simp only at gc6 gc7
                  rw [HVN.out] at gc6
                  obtain ⟨-, -, hr2, -, hrf⟩ := hL6.T.node_cells (gN := gN) (cN := cN) (by simp only; rw [HHN.out]; exact HVN.out) (i := cs j) (by simp only; rw [HHN.out]; exact hcn)
                  have hrf2 := hrf (cs j * 9 + 2)
                  have HL6 : Hid (LMem w wc B T { vj with C := .slice (some ⟨gC2, 0, none⟩) (gh.m + 1) cC2 } { gh with m := gh.m + 1, cd := upd gh.cd gh.m (s : Int), cn := upd gh.cn gh.m (gh.de (cs j)) } bH bM) := hL6
                  clear hL6 hrf
                  go_upto_region 23 with fail
                  go_region
                  go_wp2
                  go_roundw
                  case rel =>
                    refine ⟨j + 1, { vj with C := .slice (some ⟨gC2, 0, none⟩) (gh.m + 1) cC2 }, by go_num, by omega, ?_, by exact HVN.out, by exact HVU.out⟩
                    rw [HGH.out]
                    unfold restStep
                    rw [if_neg hf]
                    exact (HL6.out.deps (gN := gN) (cN := cN) (by simp only; rw [HHN.out]; exact HVN.out) (c := cs j) (by simp only; rw [HHN.out]; exact hcn) (gh.m : Int)).drew
                  case measure => simp [intOf]; omega
          · skip
            obtain rfl : j = k := by omega
            rw [HG2.out] at hLj
            obtain ⟨e1, e2, e3, e4, e5, e6, e7, e8⟩ := count_pre HCT.out.1 HCT.out.2.1 HCT.out.2.2.1 HCT.out.2.2.2.2.1 hm21 HCT.out.2.2.2.2.2.2.1 HCT.out.2.2.2.2.2.2.2
            have HLJ : Hid (LMem w wr B T vj (lk s cs j (linkHead s j g)) bH bM) := hLj
            have HPR : Hid (∀ Q, (CPost wr Q B T vj (lk s cs j (linkHead s j g)) csl (upd A s true)) → LPost w Q B T g s j cs csl (upd A s true)) := fun Q hq => lpost_of hLj hq
            have hcall := count_any hLj.T (by rw [e1]; exact hn) s (by rw [e1]; exact hs) R0 e2 e3 A csl dl e4 e5 e6 HCT.out.2.2.2.2.2.1 (by rw [hvU]; exact e7) e8 ca j cap hk cs HCT.out.2.2.2.1 (by rw [e1]; exact HCS.out) (by
              intro h0
              cases hca : ca with
              | none => have := (HNL.out hca).1; omega
              | some p =>
                obtain ⟨pb, po, hpe, hpb, hcell⟩ := HCA.out p hca h0
                exact ⟨pb, po, by rw [hpe], hpb, fun i hi => (hLj.L.cell (by exact hpb)).trans (hcell i hi)⟩)
            have HCALL : Hid (Calls Try.prog 27 #[.pointer (some ⟨T, 0, none⟩), .int .i32 (s : Int), .slice ca j cap] wr fun e w' => e = .returned (.tuple #[]) ∧ CPost wr w' B T vj (lk s cs j (linkHead s j g)) csl (upd A s true)) := hcall
            clear hcall e1 e2 e3 e4 e5 e6 e7 e8 hLj hvN hvU HGS HCT
            go_wp2_with (go_at_call 27; refine HCALL.out.mono ?_; rintro e w' ⟨rfl, hcp⟩; replace hcp := HPR.out _ hcp)
            go_end0
            exact ⟨rfl, hcp⟩
end Go.Proofs.Qxb6616545a.Mem
