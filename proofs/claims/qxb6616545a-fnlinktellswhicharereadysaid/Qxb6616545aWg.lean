import Derived.Test.Qxb6616545aWgA
namespace Go.Proofs.Qxb6616545a.Mem
set_option linter.unusedVariables false
set_option linter.unusedSimpArgs false
open Go.RowKit

set_option maxRecDepth 20000 in
set_option maxHeartbeats 4000000 in
theorem wellFormed2 {w : World} {aa : Option Addr} {n : Nat} {ac : Option Addr} {m : Nat} {ad : Nat → Bool} {A : Nat → Option Addr} {L C : Nat → Nat} {cs : Nat → Nat → Int} (h : Args w w.heap.size aa n ac m ad A L C cs) (ca cc : Nat)
    (hn : n ≤ 1024) (hm : m ≤ 1024) (hL : ∀ i, i < m → L i ≤ 1048576) :
    Calls Try.prog 7 #[.slice aa n ca, .slice ac m cc] w fun e w' => WPost2 w w' e n m ad L cs := by
  by_cases hmn : m = n
  case neg =>
    have hb : ((m : Int) != n) = true := by simp; omega
    go_enter Try.func7, Try.ntmps7
    go_wp2
    go_ret
    exact wpost2_no (Below.refl _ _)
  case pos =>
    subst hmn
    have HA : Hid (Args w w.heap.size aa m ac m ad A L C cs) := h
    have HL : Hid (∀ i, i < m → L i ≤ 1048576) := hL
    clear h hL hm
    go_enter Try.func7, Try.ntmps7
    go_wp2_with (at_make; refine wpList_mkbools _ rfl (.tmp 25) rfl m (by omega) rfl ?_)
    have hm0 := made_bools w w.heap.size m (Nat.le_refl _) (by unfold maxLen; omega)
    have hb0 : Below w.heap.size w (w.alloc (.cells (madeCells #[.bool false] m) 4)) := (Below.refl _ w).alloc (Nat.le_refl _) _
    go_loopw [7, 8] (fun lf i wr => ∃ (q l : Nat) (f : Nat → Bool), q ≤ m ∧ i = .int .i64 (q : Int) ∧ lf = .int .i64 (l : Int) ∧ l ≤ q ∧ BoolsAt wr w.heap.size w.heap.size m f ∧ Below w.heap.size w wr ∧ (∀ i, i < q → ad i = true → RowOK m cs i (L i)) ∧ SomeAd m ad f) (fun _ i _ => m - (intOf i).toNat)
    case atStart => exact ⟨0, 0, _, Nat.zero_le _, rfl, rfl, Nat.le_refl _, hm0, hb0, fun i hi => by omega, fun c hc h => by cases h⟩
    case round =>
      clear hm0 hb0
      obtain ⟨q, l, f, hq, rfl, rfl, hlq, hbl, hbe, hok, hsa⟩ := hrel
      have HSA : Hid (SomeAd m ad f) := hsa
      clear hsa
      have HB : Hid (BoolsAt wr w.heap.size w.heap.size m f) := hbl
      have HE : Hid (Below w.heap.size w wr) := hbe
      have HO : Hid (∀ i, i < q → ad i = true → RowOK m cs i (L i)) := hok
      clear hbl hbe hok
      by_cases hlt : q < m
      · obtain ⟨pb, po, ea, hpb, hcell⟩ := HA.out.a (by omega)
        have hca : wr.cell? ⟨pb, po + q, none⟩ = some (.bool (ad q)) := (HE.out.cell (by exact hpb)).trans (hcell q hlt)
        obtain ⟨rb, ro, er, hrb, hcell2⟩ := HA.out.c (by omega)
        have hcr : wr.cell? ⟨rb, ro + q, none⟩ = some (.slice (A q) (L q) (C q)) := (HE.out.cell (by exact hrb)).trans (hcell2 q hlt)
        have EA : Hid (aa = some ⟨pb, po, none⟩) := ea
        have ER : Hid (ac = some ⟨rb, ro, none⟩) := er
        have hLq := HL.out q hlt
        clear ea hcell hpb er hcell2 hrb
        by_cases ha : ad q = true
        · skip
          rw [ha] at hca
          have HAQ : Hid (ad q = true) := ha
          clear ha
          go_wp2_with (first | (refine wpList_idx _ rfl (.tmp 32) (.tmp 33) 22 4 rfl Try.underlying22 size4 aa m ca .i64 q pb po EA.out rfl rfl hlt ?_) | (refine wpList_idx _ rfl (.tmp 39) (.tmp 40) 23 31 rfl Try.underlying23 size31 ac m cc .i64 q rb ro ER.out rfl rfl hlt ?_))
          go_loopw [10] (fun j wr => ∃ (t : Nat) (f : Nat → Bool), t ≤ L q ∧ j = .int .i64 (t : Int) ∧ BoolsAt wr w.heap.size w.heap.size m f ∧ Below w.heap.size w wr ∧ RowOK m cs q t ∧ SomeAd m ad f) (fun j _ => L q - (intOf j).toNat)
          case atStart => exact ⟨0, f, Nat.zero_le _, rfl, HB.out, HE.out, fun j hj => by omega, HSA.out⟩
          case round =>
            clear HB HE hca hcr HSA
            obtain ⟨t, f, ht, rfl, hbl, hbe, hro, hsa⟩ := hrel
            have HSA : Hid (SomeAd m ad f) := hsa
            clear hsa
            have HB : Hid (BoolsAt wr w.heap.size w.heap.size m f) := hbl
            have HE : Hid (Below w.heap.size w wr) := hbe
            have HRO : Hid (RowOK m cs q t) := hro
            clear hbl hbe hro
            by_cases htl : t < L q
            · obtain ⟨sb, so, es, hsb, hcell3⟩ := HA.out.r q hlt (by omega)
              have hcc : wr.cell? ⟨sb, so + t, none⟩ = some (.int .i32 (cs q t)) := (HE.out.cell (by exact hsb)).trans (hcell3 t htl)
              obtain ⟨hw1, hw2⟩ := HA.out.wf q hlt t htl
              have ES : Hid (A q = some ⟨sb, so, none⟩) := es
              have HPrev : Hid (∀ j, j < L q → wr.cell? ⟨sb, so + j, none⟩ = some (.int .i32 (cs q j))) := fun j hj => (HE.out.cell (by exact hsb)).trans (hcell3 j hj)
              clear es hsb hcell3
              by_cases h1 : cs q t < 0
              · go_wp2_with (refine wpList_idx _ rfl (.tmp 49) (.tmp 50) 31 21 rfl Try.underlying31 size21 (A q) (L q) (C q) .i64 t sb so ES.out rfl rfl htl ?_)
                go_ret
                exact wpost2_no HE.out
              by_cases h2 : (m : Int) ≤ cs q t
              · go_wp2_with (refine wpList_idx _ rfl (.tmp 49) (.tmp 50) 31 21 rfl Try.underlying31 size21 (A q) (L q) (C q) .i64 t sb so ES.out rfl rfl htl ?_)
                go_ret
                exact wpost2_no HE.out
              by_cases h3 : cs q t = q
              · have h3b : (cs q t == (q : Int)) = true := by simp [h3]
                have h3c : cs q t ≤ q := by omega
                have h3d : (q : Int) ≤ cs q t := by omega
                clear h3
                go_wp2_with (refine wpList_idx _ rfl (.tmp 49) (.tmp 50) 31 21 rfl Try.underlying31 size21 (A q) (L q) (C q) .i64 t sb so ES.out rfl rfl htl ?_)
                go_ret
                exact wpost2_no HE.out
              obtain ⟨c, hc⟩ : ∃ c : Nat, cs q t = (c : Int) := ⟨(cs q t).toNat, by omega⟩
              have HC : Hid (cs q t = (c : Int)) := hc
              rw [hc] at hcc
              have hcm : c < m := by omega
              have hcq : ¬ (c : Int) = q := by rw [← hc]; exact h3
              have hcq2 : ((c : Int) == (q : Int)) = false := by simpa using hcq
              have hx1 := HB.out.cell hcm
              have hx2 := HB.out.frozen c
              clear h1 h2 h3 hw1 hw2 hc
              by_cases h4 : t = 0
              · have h4a : (t : Int) ≤ 0 := by omega
                have h4b : decide (0 < (t : Int)) = false := decide_eq_false (by omega)
                clear h4
                go_wp2_with (refine wpList_idx _ rfl (.tmp 49) (.tmp 50) 31 21 rfl Try.underlying31 size21 (A q) (L q) (C q) .i64 t sb so ES.out rfl rfl htl ?_)
                go_roundw
                case rel => exact ⟨t + 1, _, by omega, by go_num, HB.out.set c true, HE.out.setCell (by exact Nat.le_refl _) _, rowOK_succ HRO.out (by rw [HC.out]; omega) (by rw [HC.out]; omega) (by rw [HC.out]; exact hcq) (fun h => by omega), HSA.out.set hlt HAQ.out c⟩
                case measure => simp [intOf]; omega
              · have hpv := HPrev.out (t - 1) (by omega)
                have ht0 : 0 < t := by omega
                by_cases h5 : (c : Int) ≤ cs q (t - 1)
                · go_wp2_with (first | (refine wpList_idx _ rfl (.tmp 49) (.tmp 50) 31 21 rfl Try.underlying31 size21 (A q) (L q) (C q) .i64 t sb so ES.out rfl rfl htl ?_) | (refine wpList_idx_w _ (.tmp 70) (.tmp 72) 31 21 rfl rfl Try.underlying31 size21 (A q) (L q) (C q) .i64 (t - 1) sb so ES.out rfl _ rfl (by omega) (by omega) ?_))
                  go_ret
                  exact wpost2_no HE.out
                · go_wp2_with (first | (refine wpList_idx _ rfl (.tmp 49) (.tmp 50) 31 21 rfl Try.underlying31 size21 (A q) (L q) (C q) .i64 t sb so ES.out rfl rfl htl ?_) | (refine wpList_idx_w _ (.tmp 70) (.tmp 72) 31 21 rfl rfl Try.underlying31 size21 (A q) (L q) (C q) .i64 (t - 1) sb so ES.out rfl _ rfl (by omega) (by omega) ?_))
                  go_roundw
                  case rel => exact ⟨t + 1, _, by omega, by go_num, HB.out.set c true, HE.out.setCell (by exact Nat.le_refl _) _, rowOK_succ HRO.out (by rw [HC.out]; omega) (by rw [HC.out]; omega) (by rw [HC.out]; exact hcq) (fun h => by rw [HC.out]; omega), HSA.out.set hlt HAQ.out c⟩
                  case measure => simp [intOf]; omega
            · obtain rfl : t = L q := by omega
              go_wp2
              go_roundw
              case rel =>
                refine ⟨q + 1, l + 1, f, by omega, by go_num, by go_num, by omega, HB.out, HE.out, fun i hi hai => ?_, HSA.out⟩
                by_cases e : i = q
                · subst e; exact HRO.out
                · exact HO.out i (by omega) hai
              case measure => simp [intOf]; omega
        · skip
          have ha' : ad q = false := by simpa using ha
          rw [ha'] at hca
          have HAQ : Hid (ad q = false) := ha'
          clear ha ha'
          go_wp2_with (refine wpList_idx _ rfl (.tmp 32) (.tmp 33) 22 4 rfl Try.underlying22 size4 aa m ca .i64 q pb po EA.out rfl rfl hlt ?_)
          go_roundw
          case rel =>
            refine ⟨q + 1, l, f, by omega, by go_num, rfl, by omega, HB.out, HE.out, fun i hi hai => ?_, HSA.out⟩
            have : i ≠ q := fun e => by rw [e, HAQ.out] at hai; cases hai
            exact HO.out i (by omega) hai
          case measure => simp [intOf]; omega
      · obtain rfl : q = m := by omega
        have HO2 : Hid (∀ i, i < q → ad i = true → RowOK q cs i (L i)) := HO.out
        clear HO hlt hq
        go_wp2_with fail
        go_loop [12] (fun i => ∃ t : Nat, t ≤ q ∧ i = .int .i64 (t : Int) ∧ Cov ad f t) (fun i => q - (intOf i).toNat)
        case atStart => exact ⟨0, Nat.zero_le _, rfl, fun i hi => by omega⟩
        case round =>
          obtain ⟨t, ht, rfl, hcov⟩ := hrel
          have HCV : Hid (Cov ad f t) := hcov
          clear hcov
          by_cases htl : t < q
          · skip
            obtain ⟨pb, po, ea, hpb, hcell⟩ := HA.out.a (by omega)
            have hca : wr.cell? ⟨pb, po + t, none⟩ = some (.bool (ad t)) := (HE.out.cell (by exact hpb)).trans (hcell t htl)
            have EA : Hid (aa = some ⟨pb, po, none⟩) := ea
            have hx1 := HB.out.cell htl
            clear ea hcell hpb
            cases ha : ad t with
            | true =>
              rw [ha] at hca
              have HN : Hid (Cov ad f (t + 1)) := HCV.out.succ (.inl ha)
              clear ha
              go_wp2_with (refine wpList_idx _ rfl (.tmp 86) (.tmp 87) 22 4 rfl Try.underlying22 size4 aa q ca .i64 t pb po EA.out rfl rfl htl ?_)
              go_round
              case rel => exact ⟨t + 1, by omega, by go_num, HN.out⟩
              case measure => simp [intOf]; omega
            | false =>
              rw [ha] at hca
              clear ha
              cases hf : f t with
              | true =>
                rw [hf] at hx1
                have HN : Hid (Cov ad f (t + 1)) := HCV.out.succ (.inr hf)
                clear hf
                go_wp2_with (refine wpList_idx _ rfl (.tmp 86) (.tmp 87) 22 4 rfl Try.underlying22 size4 aa q ca .i64 t pb po EA.out rfl rfl htl ?_)
                go_round
                case rel => exact ⟨t + 1, by omega, by go_num, HN.out⟩
                case measure => simp [intOf]; omega
              | false =>
                rw [hf] at hx1
                clear hf
                go_wp2_with (refine wpList_idx _ rfl (.tmp 86) (.tmp 87) 22 4 rfl Try.underlying22 size4 aa q ca .i64 t pb po EA.out rfl rfl htl ?_)
                go_ret
                exact wpost2_no HE.out
          · have HEX : Hid (q = 0 ∨ ∃ i, i < q ∧ ad i = true) := HCV.out.some HSA.out (by omega)
            have hsz := HB.out.ge.2
            go_wp2_with (at_make; refine wpList_mkbools _ rfl (.tmp 98) rfl q (by omega) rfl ?_)
            have hs0 := made_bools wr w.heap.size q (by omega) (by unfold maxLen; omega)
            have hb0 : Below w.heap.size w (wr.alloc (.cells (madeCells #[.bool false] q) 4)) := HE.out.alloc (by omega) _
            obtain ⟨g2, hg2⟩ : ∃ g2, g2 = wr.heap.size := ⟨_, rfl⟩
            rw [← hg2] at hs0
            have hgz : w.heap.size ≤ g2 := by omega
            simp only [← hg2]
            clear hsz htl ht
            go_loopw [7, 14] (fun lf pr wq => ∃ (l : Int) (p : Bool) (f2 : Nat → Bool), lf = .int .i64 l ∧ pr = .bool p ∧ -1024 ≤ l ∧ l ≤ 1024 ∧ BoolsAt wq w.heap.size g2 q f2 ∧ Below w.heap.size w wq) (fun lf pr _ => if boolOf pr then (intOf lf).toNat + 1 else 0)
            case atStart => exact ⟨l, true, _, rfl, rfl, by omega, by omega, hs0, hb0⟩
            case round =>
              clear hs0 hb0 HB HE hg2
              obtain ⟨l, p, f2, rfl, rfl, hl1, hl2, hbl, hbe⟩ := hrel
              have HB : Hid (BoolsAt wr w.heap.size g2 q f2) := hbl
              have HE : Hid (Below w.heap.size w wr) := hbe
              clear hbl hbe hlq
              by_cases hgo : p = true ∧ 0 < l
              · obtain ⟨rfl, hl0⟩ := hgo
                go_wp2_with fail
                go_loopw [7, 14, 15] (fun lf pr i wq => ∃ (l' : Int) (p' : Bool) (t : Nat) (f3 : Nat → Bool), t ≤ q ∧ i = .int .i64 (t : Int) ∧ lf = .int .i64 l' ∧ pr = .bool p' ∧ l - t ≤ l' ∧ l' ≤ l ∧ (p' = true → l' < l) ∧ BoolsAt wq w.heap.size g2 q f3 ∧ Below w.heap.size w wq) (fun _ _ i _ => q - (intOf i).toNat)
                case atStart => exact ⟨l, false, 0, f2, Nat.zero_le _, rfl, rfl, rfl, by omega, by omega, fun h => (by cases h), HB.out, HE.out⟩
                case round =>
                  clear HB HE
                  obtain ⟨l', p', t, f3, ht, rfl, rfl, rfl, hd1, hd2, hd3, hbl, hbe⟩ := hrel
                  have HB : Hid (BoolsAt wr w.heap.size g2 q f3) := hbl
                  have HE : Hid (Below w.heap.size w wr) := hbe
                  have HD3 : Hid (p' = true → l' < l) := hd3
                  clear hbl hbe hd3
                  by_cases htl : t < q
                  · obtain ⟨pb, po, ea, hpb, hcell⟩ := HA.out.a (by omega)
                    have hcellA : Hid (∀ i, i < q → wr.cell? ⟨pb, po + i, none⟩ = some (.bool (ad i))) := fun i hi => (HE.out.cell (by exact hpb)).trans (hcell i hi)
                    have hca := hcellA.out t htl
                    obtain ⟨rb, ro, er, hrb, hcell2⟩ := HA.out.c (by omega)
                    have hcr : wr.cell? ⟨rb, ro + t, none⟩ = some (.slice (A t) (L t) (C t)) := (HE.out.cell (by exact hrb)).trans (hcell2 t htl)
                    have EA : Hid (aa = some ⟨pb, po, none⟩) := ea
                    have ER : Hid (ac = some ⟨rb, ro, none⟩) := er
                    have hLt := HL.out t htl
                    have hx1 := HB.out.cell htl
                    clear ea hcell hpb er hcell2 hrb
                    cases ha : ad t with
                    | false =>
                      rw [ha] at hca
                      clear ha
                      go_wp2_with (refine wpList_idx _ rfl (.tmp 110) (.tmp 111) 22 4 rfl Try.underlying22 size4 aa q ca .i64 t pb po EA.out rfl rfl htl ?_)
                      go_roundw
                      case rel => exact ⟨l', p', t + 1, f3, by omega, by go_num, rfl, rfl, by omega, by omega, HD3.out, HB.out, HE.out⟩
                      case measure => simp [intOf]; omega
                    | true =>
                      rw [ha] at hca
                      have HAT : Hid (ad t = true) := ha
                      clear ha
                      cases hf : f3 t with
                      | true =>
                        rw [hf] at hx1
                        clear hf
                        go_wp2_with (refine wpList_idx _ rfl (.tmp 110) (.tmp 111) 22 4 rfl Try.underlying22 size4 aa q ca .i64 t pb po EA.out rfl rfl htl ?_)
                        go_roundw
                        case rel => exact ⟨l', p', t + 1, f3, by omega, by go_num, rfl, rfl, by omega, by omega, HD3.out, HB.out, HE.out⟩
                        case measure => simp [intOf]; omega
                      | false =>
                        rw [hf] at hx1
                        clear hf
                        go_wp2_with (first | (refine wpList_idx _ rfl (.tmp 110) (.tmp 111) 22 4 rfl Try.underlying22 size4 aa q ca .i64 t pb po EA.out rfl rfl htl ?_) | (refine wpList_idx _ rfl (.tmp 121) (.tmp 122) 23 31 rfl Try.underlying23 size31 ac q cc .i64 t rb ro ER.out rfl rfl htl ?_))
                        go_loop [16, 18] (fun al j => al = .bool true ∧ ∃ u : Nat, u ≤ L t ∧ j = .int .i64 (u : Int)) (fun _ j => L t - (intOf j).toNat)
                        case atStart => exact ⟨rfl, 0, Nat.zero_le _, rfl⟩
                        case round =>
                          obtain ⟨rfl, u, hu, rfl⟩ := hrel
                          by_cases hul : u < L t
                          · obtain ⟨sb, so, es, hsb, hcell3⟩ := HA.out.r t htl (by omega)
                            obtain ⟨hr0, hr1, -, -⟩ := HO2.out t htl HAT.out u hul
                            obtain ⟨c, hc⟩ : ∃ c : Nat, cs t u = (c : Int) := ⟨(cs t u).toNat, by omega⟩
                            have hcc : wr.cell? ⟨sb, so + u, none⟩ = some (.int .i32 (c : Int)) := by rw [← hc]; exact (HE.out.cell (by exact hsb)).trans (hcell3 u hul)
                            have hcq : c < q := by omega
                            have hcb := hcellA.out c hcq
                            have hcf := HB.out.cell hcq
                            have ES : Hid (A t = some ⟨sb, so, none⟩) := es
                            clear es hsb hcell3 hr0 hr1 hc hca hcr hx1
                            cases hac : ad c with
                            | false =>
                              rw [hac] at hcb
                              clear hac
                              go_wp2_with (first | (refine wpList_idx _ rfl (.tmp 132) (.tmp 133) 31 21 rfl Try.underlying31 size21 (A t) (L t) (C t) .i64 u sb so ES.out rfl rfl hul ?_) | (refine wpList_idx _ rfl (.tmp 131) (.tmp 135) 22 4 rfl Try.underlying22 size4 aa q ca .i32 c pb po EA.out rfl rfl hcq ?_))
                              go_round
                              case rel => exact ⟨rfl, u + 1, by omega, by go_num⟩
                              case measure => simp [intOf]; omega
                            | true =>
                              rw [hac] at hcb
                              clear hac
                              cases hfc : f3 c with
                              | true =>
                                rw [hfc] at hcf
                                clear hfc
                                go_wp2_with (first | (refine wpList_idx _ rfl (.tmp 132) (.tmp 133) 31 21 rfl Try.underlying31 size21 (A t) (L t) (C t) .i64 u sb so ES.out rfl rfl hul ?_) | (refine wpList_idx _ rfl (.tmp 131) (.tmp 135) 22 4 rfl Try.underlying22 size4 aa q ca .i32 c pb po EA.out rfl rfl hcq ?_) | (refine wpList_idx_w _ (.tmp 140) (.tmp 141) 31 21 rfl rfl Try.underlying31 size21 (A t) (L t) (C t) .i64 u sb so ES.out rfl _ rfl rfl hul ?_))
                                go_round
                                case rel => exact ⟨rfl, u + 1, by omega, by go_num⟩
                                case measure => simp [intOf]; omega
                              | false =>
                                rw [hfc] at hcf
                                clear hfc
                                go_wp2_with (first | (refine wpList_idx _ rfl (.tmp 132) (.tmp 133) 31 21 rfl Try.underlying31 size21 (A t) (L t) (C t) .i64 u sb so ES.out rfl rfl hul ?_) | (refine wpList_idx _ rfl (.tmp 131) (.tmp 135) 22 4 rfl Try.underlying22 size4 aa q ca .i32 c pb po EA.out rfl rfl hcq ?_) | (refine wpList_idx_w _ (.tmp 140) (.tmp 141) 31 21 rfl rfl Try.underlying31 size21 (A t) (L t) (C t) .i64 u sb so ES.out rfl _ rfl rfl hul ?_))
                                go_roundw
                                case rel => exact ⟨l', p', t + 1, f3, by omega, by go_num, rfl, rfl, by omega, by omega, HD3.out, HB.out, HE.out⟩
                                case measure => simp [intOf]; omega
                          · skip
                            have hxf := HB.out.frozen t
                            go_wp2
                            go_roundw
                            case rel => exact ⟨l' - 1, true, t + 1, _, by omega, by go_num, rfl, rfl, by omega, by omega, fun _ => by omega, HB.out.set t true, HE.out.setCell (by exact hgz) _⟩
                            case measure => simp [intOf]; omega
                  · skip
                    go_wp2
                    go_roundw
                    case rel => exact ⟨l', p', f3, rfl, rfl, by omega, by omega, HB.out, HE.out⟩
                    case measure =>
                      have := HD3.out
                      cases p' with
                      | true => simp [intOf, boolOf]; have := this rfl; omega
                      | false => simp [intOf, boolOf]
              · skip
                cases p with
                | false =>
                  go_wp2
                  go_ret
                  exact wpost2_any HE.out HO2.out HEX.out _
                | true =>
                  have hl0 : l ≤ 0 := by
                    by_cases h : 0 < l
                    · exact absurd ⟨rfl, h⟩ hgo
                    · omega
                  clear hgo
                  go_wp2
                  go_ret
                  exact wpost2_any HE.out HO2.out HEX.out _
end Go.Proofs.Qxb6616545a.Mem
