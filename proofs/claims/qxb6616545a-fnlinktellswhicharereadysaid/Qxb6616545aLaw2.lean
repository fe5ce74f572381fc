import Derived.Test.Qxb6616545aLaw2A
import Derived.Test.Qxb6616545aZz
import Derived.Test.Qxb6616545aGb
import Derived.Test.Qxb6616545aWg
/-! FnLinkTellsWhichAreReady: the walk -/
namespace Go.Proofs.Qxb6616545a.Mem
set_option linter.unusedVariables false
set_option linter.unusedSimpArgs false
open Go.RowKit
open Go.Proofs.Qxb6616545a.Plain

set_option maxRecDepth 20000 in
set_option maxHeartbeats 4000000 in
theorem law2 {w : World} {aa : Option Addr} {n : Nat} {ac : Option Addr} {m : Nat} {ad : Nat → Bool} {A : Nat → Option Addr} {L C : Nat → Nat} {cs : Nat → Nat → Int} (h : Args w w.heap.size aa n ac m ad A L C cs) (ca cc : Nat) :
    Calls Try.prog 4 #[.slice aa n ca, .slice ac m cc] w fun e w' => e = .returned (.bool true) ∧ Below w.heap.size w w' := by
  have hln := h.ln
  have HA : Hid (Args w w.heap.size aa n ac m ad A L C cs) := h
  clear h
  go_enter Try.func4, Try.ntmps4
  go_wp2_with fail
  refine (zzBytes14 HA.out ca cc).mono ?_
  rintro e w' ⟨rfl, b, rfl, hz⟩
  cases b with
  | false =>
    clear hz
    go_wp2
    go_ret
    exact ⟨rfl, Below.refl _ _⟩
  | true =>
    have HZ : Hid (n + m + sumL L m ≤ 1048576) := hz rfl
    clear hz
    go_wp2_with fail
    refine (graphBytes HA.out ca cc).mono ?_
    rintro e w'' ⟨rfl, b, rfl, hg⟩
    cases b with
    | false =>
      clear hg
      go_wp2
      go_ret
      exact ⟨rfl, Below.refl _ _⟩
    | true =>
      obtain ⟨hn, hm⟩ := hg rfl
      clear hg
      have hLm : ∀ i, i < m → L i ≤ 1048576 := fun i hi => by have := le_sumL L hi; have := HZ.out; omega
      have HLm : Hid (∀ i, i < m → L i ≤ 1048576) := hLm
      clear hLm
      go_wp2_with fail
      refine (wellFormed2 HA.out ca cc hn hm HLm.out).mono ?_
      rintro e w2 ⟨hb2, b, rfl, hwf⟩
      cases b with
      | false =>
        have HB2 : Hid (Below w''.heap.size w'' w2) := hb2
        clear hwf hb2
        go_wp2
        go_ret
        exact ⟨rfl, HB2.out⟩
      | true =>
        obtain ⟨⟨emn, hrow⟩, hex⟩ := hwf rfl
        clear hwf
        subst emn
        have hA2 := HA.out.up2 hb2 hb2.size
        have HA2 : Hid (Args w2 w2.heap.size aa m ac m ad A L C cs) := hA2
        have HB2 : Hid (Below w''.heap.size w'' w2) := hb2
        have HR : Hid (∀ i, i < m → ad i = true → RowOK m cs i (L i)) := hrow
        have HX : Hid (m = 0 ∨ ∃ i, i < m ∧ ad i = true) := hex
        clear hA2 hb2 hrow hex HA
        go_wp2_with (at_make; refine wpList_mkbools _ rfl (.tmp 35) rfl m (by omega) rfl ?_)
        have hm0 := made_bools w2 w2.heap.size m (Nat.le_refl _) (by unfold maxLen; omega)
        have hb0 : Below w2.heap.size w2 (w2.alloc (.cells (madeCells #[.bool false] m) 4)) := (Below.refl _ w2).alloc (Nat.le_refl _) _
        obtain ⟨g, hg⟩ : ∃ g, g = w2.heap.size := ⟨_, rfl⟩
        rw [← hg] at hm0 hb0
        simp only [← hg]
        have HG : Hid (g = w2.heap.size) := hg
        clear hg
        go_loopw [7] (fun ch wr => ∃ (p : Bool) (f : Nat → Bool), ch = .bool p ∧ BoolsAt wr g g m f ∧ Below g w2 wr ∧ Snd m ad L cs f ∧ (p = false → CloB m ad L cs f)) (fun ch wr => if boolOf ch then m - cntW wr g m + 1 else 0)
        case atStart => exact ⟨true, _, rfl, hm0, hb0, Snd.start, fun h => by cases h⟩
        case round =>
          clear hm0 hb0
          obtain ⟨p, f, rfl, hbl, hbe, hsn, hcl⟩ := hrel
          have HB : Hid (BoolsAt wr g g m f) := hbl
          have HE : Hid (Below g w2 wr) := hbe
          have HSN : Hid (Snd m ad L cs f) := hsn
          have HCL : Hid (p = false → CloB m ad L cs f) := hcl
          clear hbl hbe hsn hcl
          cases p with
          | true =>
            have HW0 : Hid (cntW wr g m = cnt f m) := HB.out.cntW
            clear HCL
            go_wp2_with fail
            go_loopw [7, 8] (fun ch i wr => ∃ (p : Bool) (t : Nat) (f3 : Nat → Bool), t ≤ m ∧ i = .int .i64 (t : Int) ∧ ch = .bool p ∧ BoolsAt wr g g m f3 ∧ Below g w2 wr ∧ Pass m ad L cs f f3 p t) (fun _ i _ => m - (intOf i).toNat)
            case atStart => exact ⟨false, 0, f, Nat.zero_le _, rfl, rfl, HB.out, HE.out, Pass.start HSN.out⟩
            case round =>
              clear HB HE HSN
              obtain ⟨p, t, f3, ht, rfl, rfl, hbl, hbe, hps⟩ := hrel
              have HB : Hid (BoolsAt wr g g m f3) := hbl
              have HE : Hid (Below g w2 wr) := hbe
              have HP : Hid (Pass m ad L cs f f3 p t) := hps
              clear hbl hbe hps
              by_cases htl : t < m
              · obtain ⟨pb, po, ea, hpb, hcell⟩ := HA2.out.a (by omega)
                have hcellA : Hid (∀ i, i < m → wr.cell? ⟨pb, po + i, none⟩ = some (.bool (ad i))) := fun i hi => (HE.out.cell (by have := HG.out; show pb < g; omega)).trans (hcell i hi)
                have hca := hcellA.out t htl
                obtain ⟨rb, ro, er, hrb, hcell2⟩ := HA2.out.c (by omega)
                have hcr : wr.cell? ⟨rb, ro + t, none⟩ = some (.slice (A t) (L t) (C t)) := (HE.out.cell (by have := HG.out; show rb < g; omega)).trans (hcell2 t htl)
                have EA : Hid (aa = some ⟨pb, po, none⟩) := ea
                have ER : Hid (ac = some ⟨rb, ro, none⟩) := er
                have hLt := HLm.out t htl
                have hx1 := HB.out.cell htl
                clear ea hcell hpb er hcell2 hrb
                cases ha : ad t with
                | false =>
                  rw [ha] at hca
                  have HN : Hid (Pass m ad L cs f f3 p (t + 1)) := HP.out.skip (fun h => by rw [ha] at h; cases h)
                  clear ha
                  go_wp2_with (refine wpList_idx _ rfl (.tmp 43) (.tmp 44) 22 4 rfl Try.underlying22 size4 aa m ca .i64 t pb po EA.out rfl rfl htl ?_)
                  go_roundw
                  case rel => exact ⟨p, t + 1, f3, by omega, by go_num, rfl, HB.out, HE.out, HN.out⟩
                  case measure => simp [intOf]; omega
                | true =>
                  rw [ha] at hca
                  have HAT : Hid (ad t = true) := ha
                  clear ha
                  cases hf : f3 t with
                  | true =>
                    rw [hf] at hx1
                    have HN : Hid (Pass m ad L cs f f3 p (t + 1)) := HP.out.skip (fun _ _ => hf)
                    clear hf
                    go_wp2_with (refine wpList_idx _ rfl (.tmp 43) (.tmp 44) 22 4 rfl Try.underlying22 size4 aa m ca .i64 t pb po EA.out rfl rfl htl ?_)
                    go_roundw
                    case rel => exact ⟨p, t + 1, f3, by omega, by go_num, rfl, HB.out, HE.out, HN.out⟩
                    case measure => simp [intOf]; omega
                  | false =>
                    rw [hf] at hx1
                    have HFT : Hid (f3 t = false) := hf
                    clear hf
                    go_wp2_with (first | (refine wpList_idx _ rfl (.tmp 43) (.tmp 44) 22 4 rfl Try.underlying22 size4 aa m ca .i64 t pb po EA.out rfl rfl htl ?_) | (refine wpList_idx _ rfl (.tmp 54) (.tmp 55) 23 31 rfl Try.underlying23 size31 ac m cc .i64 t rb ro ER.out rfl rfl htl ?_))
                    go_loop [9, 11] (fun al j => al = .bool true ∧ ∃ u : Nat, u ≤ L t ∧ j = .int .i64 (u : Int) ∧ AllF cs f3 t u) (fun _ j => L t - (intOf j).toNat)
                    case atStart => exact ⟨rfl, 0, Nat.zero_le _, rfl, fun j hj => by omega⟩
                    case round =>
                      obtain ⟨rfl, u, hu, rfl, hal⟩ := hrel
                      have HAL : Hid (AllF cs f3 t u) := hal
                      clear hal
                      by_cases hul : u < L t
                      · obtain ⟨sb, so, es, hsb, hcell3⟩ := HA2.out.r t htl (by omega)
                        obtain ⟨hr0, hr1, -, -⟩ := HR.out t htl HAT.out u hul
                        obtain ⟨c, hc⟩ : ∃ c : Nat, cs t u = (c : Int) := ⟨(cs t u).toNat, by omega⟩
                        have hcc : wr.cell? ⟨sb, so + u, none⟩ = some (.int .i32 (c : Int)) := by rw [← hc]; exact (HE.out.cell (by have := HG.out; show sb < g; omega)).trans (hcell3 u hul)
                        have HCN : Hid (cN cs t u = c) := by unfold Hid cN; rw [hc]; rfl
                        have hcq : c < m := by omega
                        have hcb := hcellA.out c hcq
                        have hcf := HB.out.cell hcq
                        have ES : Hid (A t = some ⟨sb, so, none⟩) := es
                        clear es hsb hcell3 hr0 hr1 hc hca hcr hx1
                        cases hac : ad c with
                        | false =>
                          rw [hac] at hcb
                          have hfc : f3 c = false := HP.out.1.ad hcq hac
                          have HN : Hid (Pass m ad L cs f f3 p (t + 1)) := HP.out.skip (fun _ h => by have := h u hul; rw [HCN.out, hfc] at this; cases this)
                          clear hac hfc
                          go_wp2_with (first | (refine wpList_idx _ rfl (.tmp 65) (.tmp 66) 31 21 rfl Try.underlying31 size21 (A t) (L t) (C t) .i64 u sb so ES.out rfl rfl hul ?_) | (refine wpList_idx _ rfl (.tmp 64) (.tmp 68) 22 4 rfl Try.underlying22 size4 aa m ca .i32 c pb po EA.out rfl rfl hcq ?_))
                          go_roundw
                          case rel => exact ⟨p, t + 1, f3, by omega, by go_num, rfl, HB.out, HE.out, HN.out⟩
                          case measure => simp [intOf]; omega
                        | true =>
                          rw [hac] at hcb
                          clear hac
                          cases hfc : f3 c with
                          | true =>
                            rw [hfc] at hcf
                            have HAL2 : Hid (AllF cs f3 t (u + 1)) := HAL.out.succ (by rw [HCN.out]; exact hfc)
                            clear hfc
                            go_wp2_with (first | (refine wpList_idx _ rfl (.tmp 65) (.tmp 66) 31 21 rfl Try.underlying31 size21 (A t) (L t) (C t) .i64 u sb so ES.out rfl rfl hul ?_) | (refine wpList_idx _ rfl (.tmp 64) (.tmp 68) 22 4 rfl Try.underlying22 size4 aa m ca .i32 c pb po EA.out rfl rfl hcq ?_) | (refine wpList_idx_w _ (.tmp 74) (.tmp 75) 31 21 rfl rfl Try.underlying31 size21 (A t) (L t) (C t) .i64 u sb so ES.out rfl _ rfl rfl hul ?_))
                            go_round
                            case rel => exact ⟨rfl, u + 1, by omega, by go_num, HAL2.out⟩
                            case measure => simp [intOf]; omega
                          | false =>
                            rw [hfc] at hcf
                            have HN : Hid (Pass m ad L cs f f3 p (t + 1)) := HP.out.skip (fun _ h => by have := h u hul; rw [HCN.out, hfc] at this; cases this)
                            clear hfc
                            go_wp2_with (first | (refine wpList_idx _ rfl (.tmp 65) (.tmp 66) 31 21 rfl Try.underlying31 size21 (A t) (L t) (C t) .i64 u sb so ES.out rfl rfl hul ?_) | (refine wpList_idx _ rfl (.tmp 64) (.tmp 68) 22 4 rfl Try.underlying22 size4 aa m ca .i32 c pb po EA.out rfl rfl hcq ?_) | (refine wpList_idx_w _ (.tmp 74) (.tmp 75) 31 21 rfl rfl Try.underlying31 size21 (A t) (L t) (C t) .i64 u sb so ES.out rfl _ rfl rfl hul ?_))
                            go_roundw
                            case rel => exact ⟨p, t + 1, f3, by omega, by go_num, rfl, HB.out, HE.out, HN.out⟩
                            case measure => simp [intOf]; omega
                      · obtain rfl : u = L t := by omega
                        have hxf := HB.out.frozen t
                        have HN : Hid (Pass m ad L cs f (upd f3 t true) true (t + 1)) := HP.out.hit htl HAT.out HFT.out HAL.out (fun j hj => by
                          obtain ⟨hr0, hr1, -, -⟩ := HR.out t htl HAT.out j hj
                          unfold cN; omega)
                        go_wp2
                        go_roundw
                        case rel => exact ⟨true, t + 1, _, by omega, by go_num, rfl, HB.out.set t true, HE.out.setCell (by exact Nat.le_refl _) _, HN.out⟩
                        case measure => simp [intOf]; omega
              · obtain rfl : t = m := by omega
                go_wp2
                go_roundw
                case rel => exact ⟨p, f3, rfl, HB.out, HE.out, HP.out.1, fun hp => (HP.out.2.2.2 hp).all⟩
                case measure =>
                  have h1 := HP.out.2.1
                  have h2 := HB.out.cntW
                  have h3 := cnt_le f3 t
                  have h4 := HW0.out
                  cases p with
                  | true => have := h1 rfl; simp only [boolOf, if_true]; omega
                  | false => simp [boolOf]
          | false =>
            have HC : Hid (CloB m ad L cs f) := HCL.out rfl
            have hsz := HB.out.ge.2
            have HA3 : Hid (Args wr wr.heap.size aa m ac m ad A L C cs) := HA2.out.up2 (by rw [← HG.out]; exact HE.out) (by have := HG.out; omega)
            clear HCL
            go_wp2_with fail
            refine (buildTl HA3.out ca cc hn (by have := HZ.out; omega) HR.out).mono ?_
            rintro e w4 ⟨rfl, hS⟩
            obtain ⟨aU, cU, aR, cR, un, R, c1, c2, rU, rR, hri, hsz4, hb4⟩ := hS.ready HX.out
            have HBL4 : Hid (BoolsAt w4 g g m f) := HB.out.below hb4 hsz
            have HA4 : Hid (Args w4 w4.heap.size aa m ac m ad A L C cs) := HA3.out.up2 hb4 (by omega)
            have HBW4 : Hid (Below w''.heap.size w'' w4) := HB2.out.trans (((show Below w2.heap.size w2 wr by rw [← HG.out]; exact HE.out).trans (hb4.mono (by have := HG.out; omega))).mono HB2.out.size)
            have K15 : Hid (Calls Try.prog 15 #[.pointer (some ⟨wr.heap.size, 0, none⟩)] w4 fun e w' => e = .returned (.int .i64 (m : Nat)) ∧ w' = w4) := unreadyLen c1
            have K16 : Hid (∀ i, i < m → ad i = true → Calls Try.prog 16 #[.pointer (some ⟨wr.heap.size, 0, none⟩), .int .i32 (i : Int)] w4 fun e w' => e = .returned (.int .i32 (wts cs f i (L i) : Nat)) ∧ w' = w4) := by
              intro i hi ha
              have := unready c1 rU hn i hi
              rw [un_eq hri HSN.out HC.out hi ha (fun j hj => by
                obtain ⟨hr0, hr1, -, -⟩ := HR.out i hi ha j hj
                unfold cN; omega)] at this
              exact this
            have K17 : Hid (Calls Try.prog 17 #[.pointer (some ⟨wr.heap.size, 0, none⟩)] w4 fun e w' => e = .returned (.slice aR R.length cR) ∧ w' = w4) := readied c2
            have HRI : Hid (RInv m (csl L cs) (Aq ad m) un R) := hri
            have HRR : Hid (RowI w4 aR R.length (rdOf R)) := rR
            have HCNT : Hid (R.length = cnt f m) := ready_count hri HSN.out HC.out
            have HIFF : Hid (∀ i, i < m → (f i = true ↔ i ∈ R)) := fun i hi => ready_iff hri HSN.out HC.out hi
            clear hS c1 c2 rU rR hri hsz4 hb4 HA2 HA3 HB HE HB2 HSN HC hsz HX
            go_wp2_with fail
            refine Calls.mono K15.out ?_
            rintro e w5 ⟨rfl, rfl⟩
            clear K15
            go_wp2_with fail
            go_loop [13] (fun i => ∃ q : Nat, q ≤ m ∧ i = .int .i64 (q : Int)) (fun i => m - (intOf i).toNat)
            case atStart => exact ⟨0, Nat.zero_le _, rfl⟩
            case round =>
              obtain ⟨q, hq, rfl⟩ := hrel
              by_cases hlt : q < m
              · obtain ⟨pb, po, ea, hpb, hcell⟩ := HA4.out.a (by omega)
                have hca := hcell q hlt
                obtain ⟨rb, ro, er, hrb, hcell2⟩ := HA4.out.c (by omega)
                have hcr := hcell2 q hlt
                have EA : Hid (aa = some ⟨pb, po, none⟩) := ea
                have ER : Hid (ac = some ⟨rb, ro, none⟩) := er
                have hLq := HLm.out q hlt
                clear ea hcell hpb er hcell2 hrb
                cases ha : ad q with
                | false =>
                  rw [ha] at hca
                  clear ha
                  go_wp2_with (refine wpList_idx _ rfl (.tmp 98) (.tmp 99) 22 4 rfl Try.underlying22 size4 aa m ca .i64 q pb po EA.out rfl rfl hlt ?_)
                  go_round
                  case rel => exact ⟨q + 1, by omega, by go_num⟩
                  case measure => simp [intOf]; omega
                | true =>
                  rw [ha] at hca
                  have HAQ : Hid (ad q = true) := ha
                  clear ha
                  go_wp2_with (first | (refine wpList_idx _ rfl (.tmp 98) (.tmp 99) 22 4 rfl Try.underlying22 size4 aa m ca .i64 q pb po EA.out rfl rfl hlt ?_) | (refine wpList_idx _ rfl (.tmp 103) (.tmp 104) 23 31 rfl Try.underlying23 size31 ac m cc .i64 q rb ro ER.out rfl rfl hlt ?_))
                  go_loop [14, 16] (fun wt j => ∃ u : Nat, u ≤ L q ∧ j = .int .i64 (u : Int) ∧ wt = .int .i32 (wts cs f q u : Nat)) (fun _ j => L q - (intOf j).toNat)
                  case atStart => exact ⟨0, Nat.zero_le _, rfl, rfl⟩
                  case round =>
                    obtain ⟨u, hu, rfl, rfl⟩ := hrel
                    have hwl := wts_le (cs := cs) (f := f) q u
                    by_cases hul : u < L q
                    · obtain ⟨sb, so, es, hsb, hcell3⟩ := HA4.out.r q hlt (by omega)
                      obtain ⟨hr0, hr1, -, -⟩ := HR.out q hlt HAQ.out u hul
                      obtain ⟨c, hc⟩ : ∃ c : Nat, cs q u = (c : Int) := ⟨(cs q u).toNat, by omega⟩
                      have hcc := hcell3 u hul
                      rw [hc] at hcc
                      have hcn : cN cs q u = c := by unfold cN; rw [hc]; rfl
                      have hcq : c < m := by omega
                      have hcf := HBL4.out.cell hcq
                      have ES : Hid (A q = some ⟨sb, so, none⟩) := es
                      have hws := wts_succ (cs := cs) (f := f) q u
                      rw [hcn] at hws
                      clear es hsb hcell3 hr0 hr1 hc hca hcr hcn
                      cases hfc : f c with
                      | true =>
                        rw [hfc] at hcf hws
                        simp only [if_true, Nat.add_zero] at hws
                        have HS : Hid (wts cs f q (u + 1) = wts cs f q u) := hws
                        clear hfc hws
                        go_wp2_with (refine wpList_idx _ rfl (.tmp 114) (.tmp 115) 31 21 rfl Try.underlying31 size21 (A q) (L q) (C q) .i64 u sb so ES.out rfl rfl hul ?_)
                        go_round
                        case rel => exact ⟨u + 1, by omega, by go_num, by rw [HS.out]⟩
                        case measure => simp [intOf]; omega
                      | false =>
                        rw [hfc] at hcf hws
                        simp only [Bool.false_eq_true, if_false] at hws
                        have HS : Hid (wts cs f q (u + 1) = wts cs f q u + 1) := hws
                        clear hfc hws
                        go_wp2_with (refine wpList_idx _ rfl (.tmp 114) (.tmp 115) 31 21 rfl Try.underlying31 size21 (A q) (L q) (C q) .i64 u sb so ES.out rfl rfl hul ?_)
                        go_round
                        case rel => exact ⟨u + 1, by omega, by go_num, by rw [HS.out] <;> go_num⟩
                        case measure => simp [intOf]; omega
                    · obtain rfl : u = L q := by omega
                      have K16q : Hid _ := K16.out q hlt HAQ.out
                      go_wp2_with fail
                      refine Calls.mono K16q.out ?_
                      rintro e w6 ⟨rfl, rfl⟩
                      go_wp2
                      go_round
                      case rel => exact ⟨q + 1, by omega, by go_num⟩
                      case measure => simp [intOf]; omega
              · skip
                go_wp2_with fail
                refine Calls.mono K17.out ?_
                rintro e w6 ⟨rfl, rfl⟩
                clear K17 K16
                have hRm : R.length ≤ m := HRI.out.bound
                go_wp2_with (at_make; refine wpList_mkbools _ rfl (.tmp 131) rfl m (by omega) rfl ?_)
                have hm0 := made_bools w6 w6.heap.size m (Nat.le_refl _) (by unfold maxLen; omega)
                rw [← seen_zero (R := R)] at hm0
                have hb0 : Below w6.heap.size w6 (w6.alloc (.cells (madeCells #[.bool false] m) 4)) := (Below.refl _ w6).alloc (Nat.le_refl _) _
                obtain ⟨g6, hg6⟩ : ∃ g6, g6 = w6.heap.size := ⟨_, rfl⟩
                rw [← hg6] at hm0 hb0
                simp only [← hg6]
                have HG6 : Hid (g6 = w6.heap.size ∧ g < g6) := ⟨hg6, by have := HBL4.out.ge.2; omega⟩
                clear hg6
                go_loopw [19] (fun i wr => ∃ j : Nat, j ≤ R.length ∧ i = .int .i64 (j : Int) ∧ BoolsAt wr g6 g6 m (seenUpto R j) ∧ Below g6 w6 wr) (fun i _ => R.length - (intOf i).toNat)
                case atStart => exact ⟨0, Nat.zero_le _, rfl, hm0, hb0⟩
                case round =>
                  clear hm0 hb0
                  obtain ⟨j, hj, rfl, hbl, hbe⟩ := hrel
                  have HB : Hid (BoolsAt wr g6 g6 m (seenUpto R j)) := hbl
                  have HE : Hid (Below g6 w6 wr) := hbe
                  have HF : Hid (BoolsAt wr g g m f) := HBL4.out.below HE.out HG6.out.2
                  clear hbl hbe
                  by_cases hjl : j < R.length
                  · obtain ⟨sb, es, hsb, hcell3⟩ := HRR.out (by omega)
                    obtain ⟨c, hc⟩ : ∃ c : Nat, c = R.getD j 0 := ⟨_, rfl⟩
                    have hcR : c ∈ R := by rw [hc]; exact getD_mem hjl
                    have hcm : c < m := HRI.out.lt c hcR
                    have hcc : wr.cell? ⟨sb, 0 + j, none⟩ = some (.int .i32 (c : Int)) := by
                      rw [Nat.zero_add]
                      refine (HE.out.cell (by have := HG6.out.1; show sb < g6; omega)).trans ((hcell3 j hjl).trans ?_)
                      unfold rdOf; rw [hc]
                    have hcc2 : wr.cell? ⟨sb, j, none⟩ = some (.int .i32 (c : Int)) := by
                      have := hcc
                      rw [Nat.zero_add] at this
                      exact this
                    have hcs := HB.out.cell hcm
                    have hcz := HB.out.frozen c
                    rw [show seenUpto R j c = false by rw [hc]; exact seen_not HRI.out.nd hjl] at hcs
                    have hcf := HF.out.cell hcm
                    rw [(HIFF.out c hcm).2 hcR] at hcf
                    have ES : Hid (aR = some ⟨sb, 0, none⟩) := es
                    have HN : Hid (BoolsAt (wr.setCell ⟨g6, c, none⟩ (.bool true)) g6 g6 m (seenUpto R (j + 1))) := by
                      have := HB.out.set c true
                      rw [show upd (seenUpto R j) c true = seenUpto R (j + 1) by rw [hc]; exact seen_succ hjl] at this
                      exact this
                    clear es hsb hcell3 hcR hc
                    go_wp2_with (refine wpList_idx _ rfl (.tmp 139) (.tmp 140) 31 21 rfl Try.underlying31 size21 aR R.length cR .i64 j sb 0 ES.out rfl rfl hjl ?_)
                    go_roundw
                    case rel => exact ⟨j + 1, by omega, by go_num, HN.out, HE.out.setCell (by exact Nat.le_refl _) _⟩
                    case measure => simp [intOf]; omega
                  · have K18 : Hid (Calls Try.prog 18 #[.slice (some ⟨g, 0, none⟩) m m] wr fun e w' => e = .returned (.int .i64 (R.length : Nat)) ∧ w' = wr) := by
                      have := countTrue HF.out hn
                      rw [← HCNT.out] at this
                      exact this
                    have HEND : Hid (Below w''.heap.size w'' wr) := HBW4.out.trans (HE.out.mono (by have := HBW4.out.size; have := HG6.out.1; omega))
                    go_wp2_with fail
                    refine Calls.mono K18.out ?_
                    rintro e w7 ⟨rfl, rfl⟩
                    go_wp2
                    go_ret
                    exact ⟨rfl, HEND.out⟩

end Go.Proofs.Qxb6616545a.Mem
