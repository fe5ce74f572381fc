import Derived.Test.Qxb6616545aZl
import Derived.Test.Qxb6616545aJ
/-! buildTimeline -/
namespace Go.Proofs.Qxb6616545a.Mem
set_option linter.unusedVariables false
set_option linter.unusedSimpArgs false
open Go.RowKit
open Go.Proofs.Qxb6616545a.Plain

/-- the timeline when the first q nodes have been gone through -/
def TState (w wr : World) (n q : Nat) (ad : Nat → Bool) (L : Nat → Nat) (cs : Nat → Nat → Int) : Prop :=
  ∃ v g dl R, TMem wr w.heap.size w.heap.size v g ∧ Maps2 wr w.heap.size v n g.hd g.ms ∧ JInv n q ad L cs g dl R ∧ (g.u = n ∨ (v.U = .slice none 0 0 ∧ ∀ i, i < n → Aq ad q i = false)) ∧ Below w.heap.size w wr

theorem TState.skip {w wr : World} {n q : Nat} {ad : Nat → Bool} {L : Nat → Nat} {cs : Nat → Nat → Int} (h : TState w wr n q ad L cs) (ha : ad q = false) : TState w wr n (q + 1) ad L cs := by
  obtain ⟨v, g, dl, R, h1, h2, h3, h4, h5⟩ := h
  exact ⟨v, g, dl, R, h1, h2, h3.skip ha, by rw [Aq_no ha]; exact h4, h5⟩

theorem link_step {w w1 : World} {q : Nat} {aa : Option Addr} {ac : Option Addr} {ad : Nat → Bool} {A : Nat → Option Addr} {L C : Nat → Nat} {cs : Nat → Nat → Int} {v : V} {g : G} {dl : Nat → List Nat} {R : List Nat}
    (hA : Args w w.heap.size aa g.n ac g.n ad A L C cs) (hT : TMem w1 w.heap.size w.heap.size v (gAdd g q)) (hM : Maps2 w1 w.heap.size v g.n g.hd g.ms) (hJ : JInv g.n q ad L cs g dl R)
    (hU : g.u = g.n ∨ (v.U = .slice none 0 0 ∧ ∀ i, i < g.n → Aq ad q i = false)) (hBe : Below w.heap.size w w1) (hn : g.n ≤ 1024) (hsum : sumL L g.n ≤ 1048576) (hq : q < g.n) (ha : ad q = true) (hw : RowOK g.n cs q (L q)) :
    Calls Try.prog 21 #[.pointer (some ⟨w.heap.size, 0, none⟩), .int .i32 (q : Int), .slice (A q) (L q) (C q)] w1 fun e w' => e = .returned (.tuple #[]) ∧ TState w w' g.n (q + 1) ad L cs := by
  have hLq : L q ≤ sumL L g.n := le_sumL L hq
  have hs1 := sumL_mono L (i := q + 1) (j := g.n) (by omega)
  have hs2 : sumL L (q + 1) = sumL L q + L q := rfl
  have hm := hJ.m
  have hl := hJ.l
  have e := Aq_yes ha
  have hA1 := hA.below hBe
  have hgr := hJ.grph hq ha hw (by omega)
  refine (zzLink (g := gAdd g q) (v := v) hT hM hn q hq R hJ.r hJ.rd (Aq ad q) (csl L cs) (dlj q (cN cs q) dl (L q)) hJ.ri (A q) (L q) (C q) (by omega) (cN cs q) rfl (fun j hj => ⟨(cN_ok hw hj).2.1, (cN_ok hw hj).2.2⟩)
    (by rw [e]; exact hgr) (by show g.m + L q ≤ _; omega) (by show g.l + 1 + L q ≤ _; omega) (Aq_self ad q) hU ?_ (hA.nil q hq) ?_).mono ?_
  · intro i hi
    show upd g.rk q 0 i = _
    by_cases ei : i = q
    · subst ei; rw [upd_same, upd_same]; rfl
    · rw [upd_other _ _ ei, upd_other _ _ ei]; exact hJ.rk i hi
  · intro p hp h0
    obtain ⟨pb, po, ep, hpb, hc⟩ := hA1.r q hq h0
    rw [hp] at ep
    refine ⟨pb, po, by simpa using ep, hpb, fun j hj => ?_⟩
    rw [(cN_ok hw hj).1]
    exact hc j hj
  · rintro e' w' ⟨rfl, v', un, R', bH, bM, hT', hM', hR', hB'⟩
    rw [e] at hR'
    refine ⟨rfl, v', _, _, R', hT', .inr ⟨bH, bM, hM'⟩, hJ.next hq ha hw (by omega) hR', .inl rfl, hBe.trans hB'⟩

theorem TState.start (w w1 : World) (n : Nat) (ad : Nat → Bool) (L : Nat → Nat) (cs : Nat → Nat → Int) {x : Value} (hT : TMem w1 w.heap.size w.heap.size (vInit x) (gInit n)) (hB : Below w.heap.size w w1) : TState w w1 n 0 ad L cs :=
  ⟨vInit x, gInit n, fun _ => [], [], hT, .inl ⟨rfl, rfl, fun _ _ => rfl, fun _ _ => rfl⟩, JInv.start n ad L cs _ rfl, .inr ⟨rfl, fun i _ => by simp [Aq]⟩, hB⟩

set_option maxHeartbeats 2000000 in
theorem buildTl {w : World} {aa : Option Addr} {n : Nat} {ac : Option Addr} {ad : Nat → Bool} {A : Nat → Option Addr} {L C : Nat → Nat} {cs : Nat → Nat → Int} (h : Args w w.heap.size aa n ac n ad A L C cs) (ca cc : Nat)
    (hn : n ≤ 1024) (hsum : sumL L n ≤ 1048576) (hwf : ∀ i, i < n → ad i = true → RowOK n cs i (L i)) :
    Calls Try.prog 9 #[.slice aa n ca, .slice ac n cc] w fun e w' => e = .returned (.pointer (some ⟨w.heap.size, 0, none⟩)) ∧ TState w w' n n ad L cs := by
  have HA : Hid (Args w w.heap.size aa n ac n ad A L C cs) := h
  have HW : Hid (∀ i, i < n → ad i = true → RowOK n cs i (L i)) := hwf
  have HS : Hid (sumL L n ≤ 1048576) := hsum
  obtain ⟨z, hz, z0, z6, z7, z78, z103, z139, z140, z141, z142⟩ := zeroT
  have HI : Hid (TMem (w.alloc (.cells z 92)) w.heap.size w.heap.size (vInit (.slice none 0 0)) (gInit 0)) := tinit w z0 z6 z7 z78 z103 z139 z140 z141 z142
  have HZ : Hid (∀ w, (Instr.build 92 #[]).run Try.prog w = .ok (.agg z) w) := hz
  clear h hwf hsum hz z0 z6 z7 z78 z103 z139 z140 z141 z142
  go_enter Try.func9, Try.ntmps9
  go_wp2_with (first | (refine wpList_buildT _ rfl rfl HZ.out ?_) | (refine wpList_boxT _ rfl (.tmp 8) rfl rfl ?_))
  go_loopw [6] (fun i wr => ∃ (q : Nat) (x : Value), q ≤ n ∧ i = .int .i64 (q : Int) ∧ TMem wr w.heap.size w.heap.size (vInit x) (gInit q) ∧ Below w.heap.size w wr) (fun i _ => n - (intOf i).toNat)
  case atStart => exact ⟨0, _, Nat.zero_le _, rfl, HI.out, (Below.refl _ w).alloc (Nat.le_refl _) _⟩
  case round =>
    clear HI HZ
    obtain ⟨q, x, hq, rfl, hT, hB⟩ := hrel
    have HT : Hid (TMem wr w.heap.size w.heap.size (vInit x) (gInit q)) := hT
    have HB : Hid (Below w.heap.size w wr) := hB
    clear hT hB
    by_cases hlt : q < n
    · go_wp2_with (go_at_call 19; refine (addNode HT.out (by show q < 1024; omega)).mono ?_; rintro e w1 ⟨rfl, hx1, hb1⟩)
      go_roundw
      case rel =>
        obtain ⟨x1, hx1⟩ := hx1
        rw [gInit_succ] at hx1
        exact ⟨q + 1, x1, by omega, by go_num, hx1, HB.out.trans hb1⟩
      case measure => simp [intOf]; omega
    · obtain rfl : q = n := by omega
      have HS0 : Hid (TState w wr q 0 ad L cs) := TState.start w wr q ad L cs HT.out HB.out
      clear HT HB
      go_wp2_with fail
      go_loopw [7] (fun i wr => ∃ p : Nat, p ≤ q ∧ i = .int .i64 (p : Int) ∧ TState w wr q p ad L cs) (fun i _ => q - (intOf i).toNat)
      case atStart => exact ⟨0, Nat.zero_le _, rfl, HS0.out⟩
      case round =>
        clear HS0
        obtain ⟨p, hp, rfl, hS⟩ := hrel
        by_cases hpl : p < q
        · have hbe : Below w.heap.size w wr := by obtain ⟨_, _, _, _, _, _, _, _, h5⟩ := hS; exact h5
          obtain ⟨pb, po, ea, hpb, hcell⟩ := HA.out.a (by omega)
          have hca : wr.cell? ⟨pb, po + p, none⟩ = some (.bool (ad p)) := (hbe.cell (by exact hpb)).trans (hcell p hpl)
          obtain ⟨rb, ro, er, hrb, hcell2⟩ := HA.out.c (by omega)
          have hcr0 : w.cell? ⟨rb, ro + p, none⟩ = some (.slice (A p) (L p) (C p)) := hcell2 p hpl
          have EA : Hid (aa = some ⟨pb, po, none⟩) := ea
          have ER : Hid (ac = some ⟨rb, ro, none⟩ ∧ rb < w.heap.size) := ⟨er, hrb⟩
          have HS1 : Hid (TState w wr q p ad L cs) := hS
          have HCR : Hid (w.cell? ⟨rb, ro + p, none⟩ = some (.slice (A p) (L p) (C p))) := hcr0
          clear ea hcell hpb er hcell2 hrb hS hbe hcr0
          cases ha : ad p with
          | false =>
            rw [ha] at hca
            have HAP : Hid (ad p = false) := ha
            clear ha
            go_wp2_with (refine wpList_idx _ rfl (.tmp 24) (.tmp 25) 22 4 rfl Try.underlying22 size4 aa q ca .i64 p pb po EA.out rfl rfl hpl ?_)
            go_roundw
            case rel => exact ⟨p + 1, by omega, by go_num, HS1.out.skip HAP.out⟩
            case measure => simp [intOf]; omega
          | true =>
            rw [ha] at hca
            have HAP : Hid (ad p = true) := ha
            clear ha
            obtain ⟨v, g, dl, R, h1, h2, h3, h4, h5⟩ := HS1.out
            have hen := h3.en
            have hc20 := setAdded h1 (by rw [hen]; exact hn) p (by rw [hen]; exact hpl)
            have H20 : Hid (Calls Try.prog 20 #[.pointer (some ⟨w.heap.size, 0, none⟩), .int .i32 (p : Int)] wr fun e w' => e = .returned (.tuple #[]) ∧ TMem w' w.heap.size w.heap.size v { g with rk := upd g.rk p 0 } ∧ MapsKept wr w' ∧ Below w.heap.size wr w') := hc20
            have H21 : Hid (∀ w1, TMem w1 w.heap.size w.heap.size v { g with rk := upd g.rk p 0 } → MapsKept wr w1 → Below w.heap.size wr w1 →
                w1.cell? ⟨rb, ro + p, none⟩ = some (.slice (A p) (L p) (C p)) ∧ Hid (Calls Try.prog 21 #[.pointer (some ⟨w.heap.size, 0, none⟩), .int .i32 (p : Int), .slice (A p) (L p) (C p)] w1 fun e w' => e = .returned (.tuple #[]) ∧ TState w w' q (p + 1) ad L cs)) := by
              intro w1 k1 k2 k3
              refine ⟨((h5.trans k3).cell (by exact ER.out.2)).trans HCR.out, ?_⟩
              unfold Hid
              have hAg := HA.out
              have hwg := HW.out p hpl HAP.out
              have hsg := HS.out
              rw [← hen] at h2 h3 h4 hAg hwg hsg ⊢
              exact link_step hAg k1 (h2.mapsKept k2 rfl rfl) h3 h4 (h5.trans k3) (by rw [hen]; exact hn) hsg (by rw [hen]; exact hpl) HAP.out hwg
            clear h1 h2 h3 h4 h5 hen hc20 HS1 HCR
            go_wp2_with (first | (refine wpList_idx _ rfl (.tmp 24) (.tmp 25) 22 4 rfl Try.underlying22 size4 aa q ca .i64 p pb po EA.out rfl rfl hpl ?_) | (refine wpList_idx _ rfl (.tmp 35) (.tmp 36) 23 31 rfl Try.underlying23 size31 ac q cc .i64 p rb ro ER.out.1 rfl rfl hpl ?_) | (go_at_call 20; refine H20.out.mono ?_; rintro e w1 ⟨rfl, k1, k2, k3⟩; obtain ⟨hcr, HC21⟩ := H21.out w1 k1 k2 k3; clear k1 k2 k3))
            refine HC21.out.mono ?_
            rintro e w2 ⟨rfl, hS2⟩
            go_wp2
            go_roundw
            case rel => exact ⟨p + 1, by omega, by go_num, hS2⟩
            case measure => simp [intOf]; omega
        · obtain rfl : p = q := by omega
          have HS1 : Hid (TState w wr p p ad L cs) := hS
          clear hS
          go_wp2
          go_ret
          exact ⟨rfl, HS1.out⟩

end Go.Proofs.Qxb6616545a.Mem
