import Derived.Test.Qxb6616545aAcc
import Derived.Test.Qxb6616545aZz
import Derived.Test.Qxb6616545aGb
import Derived.Test.Qxb6616545aWf
/-! FnLinkKeepsHeadsAndMissing: the walk -/
namespace Go.Proofs.Qxb6616545a.Mem
set_option linter.unusedVariables false
open Go.RowKit
open Go.Proofs.Qxb6616545a.Plain
set_option linter.unusedSimpArgs false

theorem Args.up {w w' : World} {Z Z' : Nat} {aa : Option Addr} {n : Nat} {ac : Option Addr} {m : Nat} {ad : Nat → Bool} {A : Nat → Option Addr} {L C : Nat → Nat} {cs : Nat → Nat → Int} (h : Args w Z aa n ac m ad A L C cs) (hb : Below Z w w') (hz : Z ≤ Z') :
    Args w' Z' aa n ac m ad A L C cs := by
  have h1 := h.below hb
  refine ⟨fun h0 => ?_, fun h0 => ?_, h1.nil, fun i hi h0 => ?_, h1.ln, h1.lm, h1.lL, h1.wf⟩
  · obtain ⟨pb, po, e, hp, hc⟩ := h1.a h0
    exact ⟨pb, po, e, by omega, hc⟩
  · obtain ⟨pb, po, e, hp, hc⟩ := h1.c h0
    exact ⟨pb, po, e, by omega, hc⟩
  · obtain ⟨pb, po, e, hp, hc⟩ := h1.r i hi h0
    exact ⟨pb, po, e, by omega, hc⟩

set_option maxRecDepth 20000 in
set_option maxHeartbeats 4000000 in
theorem law1 {w : World} {aa : Option Addr} {n : Nat} {ac : Option Addr} {m : Nat} {ad : Nat → Bool} {A : Nat → Option Addr} {L C : Nat → Nat} {cs : Nat → Nat → Int} (h : Args w w.heap.size aa n ac m ad A L C cs) (ca cc : Nat) :
    Calls Try.prog 3 #[.slice aa n ca, .slice ac m cc] w fun e w' => e = .returned (.bool true) ∧ Below w.heap.size w w' := by
  have hln := h.ln
  have HA : Hid (Args w w.heap.size aa n ac m ad A L C cs) := h
  clear h
  go_enter Try.func3, Try.ntmps3
  go_wp2_with fail
  refine (zzBytes5 HA.out ca cc).mono ?_
  rintro e w' ⟨rfl, b, rfl, hz⟩
  cases b with
  | false =>
    clear hz
    go_wp2
    go_ret
    exact ⟨rfl, Below.refl _ _⟩
  | true =>
    have HZ : Hid (n + m + sumL L m ≤ 1048576) := hz rfl
    clear hz
    go_wp2_with fail
    refine (graphBytes HA.out ca cc).mono ?_
    rintro e w'' ⟨rfl, b, rfl, hg⟩
    cases b with
    | false =>
      clear hg
      go_wp2
      go_ret
      exact ⟨rfl, Below.refl _ _⟩
    | true =>
      obtain ⟨hn, hm⟩ := hg rfl
      clear hg
      have hLm : ∀ i, i < m → L i ≤ 1048576 := fun i hi => by have := le_sumL L hi; have := HZ.out; omega
      have HLm : Hid (∀ i, i < m → L i ≤ 1048576) := hLm
      clear hLm
      go_wp2_with fail
      refine (wellFormed HA.out ca cc hn hm HLm.out).mono ?_
      rintro e w2 ⟨hb2, b, rfl, hwf⟩
      cases b with
      | false =>
        have HB2 : Hid (Below w''.heap.size w'' w2) := hb2
        clear hwf hb2
        go_wp2
        go_ret
        exact ⟨rfl, HB2.out⟩
      | true =>
        obtain ⟨emn, hrow⟩ := hwf rfl
        clear hwf
        subst emn
        have hA2 := HA.out.up hb2 hb2.size
        have HA2 : Hid (Args w2 w2.heap.size aa m ac m ad A L C cs) := hA2
        have HB2 : Hid (Below w''.heap.size w'' w2) := hb2
        have HR : Hid (∀ i, i < m → ad i = true → RowOK m cs i (L i)) := hrow
        clear hA2 hb2 hrow
        go_wp2_with fail
        refine (citedBy HA2.out ca cc hn HLm.out (fun i hi ha j hj => ⟨(HR.out i hi ha j hj).1, (HR.out i hi ha j hj).2.1⟩)).mono ?_
        rintro e w3 ⟨rfl, hbl3, hb3⟩
        have hsz3 : w2.heap.size < w3.heap.size := hbl3.ge.2
        have HA3 : Hid (Args w3 w3.heap.size aa m ac m ad A L C cs) := HA2.out.up hb3 hb3.size
        have HB3 : Hid (Below w2.heap.size w2 w3) := hb3
        have HBL3 : Hid (BoolsAt w3 w2.heap.size w2.heap.size m (citedUpto ad L cs m)) := hbl3
        clear hb3 hbl3
        go_wp2_with fail
        refine (buildTl HA3.out ca cc hn (by have := HZ.out; omega) HR.out).mono ?_
        rintro e w4 ⟨rfl, hS⟩
        obtain ⟨mH, mM, hd, ms, c1, c2, s1, s2, hsz4, hb4, e1, e2⟩ := hS.sets
        have hsz4' : w3.heap.size ≤ w4.heap.size := by omega
        have HA4 : Hid (Args w4 w4.heap.size aa m ac m ad A L C cs) := HA3.out.up hb4 (by omega)
        have HBL4 : Hid (BoolsAt w4 w2.heap.size w2.heap.size m (citedUpto ad L cs m)) := HBL3.out.below hb4 hsz3
        have HBW4 : Hid (Below w''.heap.size w'' w4) := HB2.out.trans ((HB3.out.trans (hb4.mono (by omega))).mono HB2.out.size)
        have HM : Hid (∀ wr, Below w4.heap.size w4 wr → wr.cell? ⟨w3.heap.size, 139, none⟩ = some (.map mH) ∧ wr.cell? ⟨w3.heap.size, 140, none⟩ = some (.map mM) ∧ SetOr wr mH m hd ∧ SetOr wr mM m ms) :=
          fun wr hb => ⟨(hb.cell (by exact hsz4)).trans c1, (hb.cell (by exact hsz4)).trans c2, s1.below hb, s2.below hb⟩
        have HE1 : Hid (∀ i, i < m → hd i = (ad i && !citedUpto ad L cs m i)) := e1
        have HE2 : Hid (∀ i, i < m → ms i = (!ad i && citedUpto ad L cs m i)) := e2
        clear hS c1 c2 s1 s2 hsz4 hb4 e1 e2 HA HA2 HA3 HB2 HB3 HBL3 HZ HLm HR
        go_wp2_with fail
        go_loopw [8, 9, 10] (fun hh mm i wr => ∃ q : Nat, q ≤ m ∧ i = .int .i64 (q : Int) ∧ hh = .int .i64 (cnt hd q : Nat) ∧ mm = .int .i64 (cnt ms q : Nat) ∧ Below w4.heap.size w4 wr) (fun _ _ i _ => m - (intOf i).toNat)
        case atStart => exact ⟨0, Nat.zero_le _, rfl, rfl, rfl, Below.refl _ _⟩
        case round =>
          obtain ⟨q, hq, rfl, rfl, rfl, hbw⟩ := hrel
          have hc1 := cnt_le hd q
          have hc2 := cnt_le ms q
          have HBW : Hid (Below w4.heap.size w4 wr) := hbw
          clear hbw
          by_cases hlt : q < m
          · obtain ⟨pb, po, ea, hpb, hcell⟩ := HA4.out.a (by omega)
            have hca : wr.cell? ⟨pb, po + q, none⟩ = some (.bool (ad q)) := (HBW.out.cell (by exact hpb)).trans (hcell q hlt)
            have hcc : wr.cell? ⟨w2.heap.size, q, none⟩ = some (.bool (citedUpto ad L cs m q)) := (HBW.out.cell (by have := HBL4.out.ge.2; exact this)).trans (HBL4.out.cell hlt)
            have EA : Hid (aa = some ⟨pb, po, none⟩) := ea
            have hh := HE1.out q hlt
            have hs := HE2.out q hlt
            have hs1 := cnt_succ hd q
            have hs2 := cnt_succ ms q
            clear ea hcell hpb
            obtain ⟨d1, d2, d3, d4⟩ := HM.out wr HBW.out
            have k10 := isHead d1 d3 hn q hlt
            have k11 : ∀ w5, Below wr.heap.size wr w5 → Calls Try.prog 11 #[.pointer (some ⟨w3.heap.size, 0, none⟩), .int .i32 (q : Int)] w5 fun e w' => e = .returned (.bool (ms q)) ∧ Below w5.heap.size w5 w' := fun w5 hb => by
              obtain ⟨_, f2, _, f4⟩ := HM.out w5 (HBW.out.trans (hb.mono HBW.out.size))
              exact isMissing f2 f4 hn q hlt
            clear d1 d2 d3 d4
            cases ha : ad q
            all_goals cases hci : citedUpto ad L cs m q
            all_goals
              rw [ha] at hca hh hs
              rw [hci] at hcc hh hs
              simp only [Bool.not_true, Bool.not_false, Bool.and_true, Bool.and_false, Bool.true_and, Bool.false_and] at hh hs
              rw [hh] at hs1 k10
              rw [hs] at hs2
              simp only [hs] at k11
              simp only [if_true, Bool.false_eq_true, if_false, Nat.add_zero] at hs1 hs2
              have HS : Hid (cnt hd (q + 1) = _ ∧ cnt ms (q + 1) = _) := ⟨hs1, hs2⟩
              have K10 : Hid _ := k10
              have K11 : Hid _ := k11
              clear ha hci hh hs hs1 hs2 k10 k11
              go_wp2_with (first | (refine wpList_idx _ rfl (.tmp 38) (.tmp 39) 22 4 rfl Try.underlying22 size4 aa m ca .i64 q pb po EA.out rfl rfl hlt ?_) | (refine wpList_idx _ rfl (.tmp 49) (.tmp 50) 22 4 rfl Try.underlying22 size4 aa m ca .i64 q pb po EA.out rfl rfl hlt ?_))
              refine Calls.mono K10.out ?_
              rintro e w5 ⟨rfl, hb5⟩
              have HB5 : Hid (Below wr.heap.size wr w5) := hb5
              clear hb5
              go_wp2_with fail
              refine Calls.mono (K11.out w5 HB5.out) ?_
              rintro e w6 ⟨rfl, hb6⟩
              have HB6 : Hid (Below w5.heap.size w5 w6) := hb6
              clear hb6
              go_wp2
              go_roundw
              case rel => exact ⟨q + 1, by omega, by go_num, by rw [HS.out.1] <;> go_num, by rw [HS.out.2] <;> go_num, HBW.out.trans ((HB5.out.trans (HB6.out.mono HB5.out.size)).mono HBW.out.size)⟩
              case measure => simp [intOf]; omega
          · obtain rfl : q = m := by omega
            obtain ⟨d1, d2, d3, d4⟩ := HM.out wr HBW.out
            have K12 : Hid _ := headCount d1 d3
            have K13 : Hid _ := missingCount d2 d4
            clear d1 d2 d3 d4
            go_wp2_with fail
            refine Calls.mono K12.out ?_
            rintro e w5 ⟨rfl, rfl⟩
            go_wp2_with fail
            refine Calls.mono K13.out ?_
            rintro e w6 ⟨rfl, rfl⟩
            go_wp2
            go_ret
            exact ⟨rfl, HBW4.out.trans (HBW.out.mono (by have := HBW4.out.size; omega))⟩

end Go.Proofs.Qxb6616545a.Mem
