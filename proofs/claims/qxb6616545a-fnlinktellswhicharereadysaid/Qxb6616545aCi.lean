import Derived.Test.Qxb6616545aBl
/-! citedByAdded -/
namespace Go.Proofs.Qxb6616545a.Mem
set_option linter.unusedVariables false
set_option linter.unusedSimpArgs false
open Go.RowKit

/-- the marks of the first j causes of node i -/
def rowMarks (cs : Nat → Nat → Int) (i : Nat) : Nat → (Nat → Bool) → Nat → Bool
  | 0, f => f
  | j + 1, f => upd (rowMarks cs i j f) (cs i j).toNat true

def citedUpto (ad : Nat → Bool) (L : Nat → Nat) (cs : Nat → Nat → Int) : Nat → Nat → Bool
  | 0 => fun _ => false
  | i + 1 => if ad i then rowMarks cs i (L i) (citedUpto ad L cs i) else citedUpto ad L cs i

theorem rowMarks_iff (cs : Nat → Nat → Int) (i : Nat) (f : Nat → Bool) (c : Nat) : ∀ j, rowMarks cs i j f c = true ↔ f c = true ∨ ∃ t, t < j ∧ (cs i t).toNat = c
  | 0 => ⟨fun h => .inl h, fun h => h.elim id (fun ⟨t, ht, _⟩ => by omega)⟩
  | j + 1 => by
    have ih := rowMarks_iff cs i f c j
    show upd (rowMarks cs i j f) (cs i j).toNat true c = true ↔ _
    by_cases e : c = (cs i j).toNat
    · rw [← e, upd_same]
      exact ⟨fun _ => .inr ⟨j, by omega, e.symm⟩, fun _ => rfl⟩
    · rw [upd_other _ _ e, ih]
      constructor
      · rintro (h | ⟨t, ht, hc⟩)
        · exact .inl h
        · exact .inr ⟨t, by omega, hc⟩
      · rintro (h | ⟨t, ht, hc⟩)
        · exact .inl h
        · refine .inr ⟨t, ?_, hc⟩
          have : t ≠ j := fun h => e (by rw [← hc, h])
          omega

theorem citedUpto_iff (ad : Nat → Bool) (L : Nat → Nat) (cs : Nat → Nat → Int) (c : Nat) : ∀ q, citedUpto ad L cs q c = true ↔ ∃ i, i < q ∧ ad i = true ∧ ∃ t, t < L i ∧ (cs i t).toNat = c
  | 0 => ⟨fun h => (by cases h), fun ⟨i, hi, _⟩ => (by omega)⟩
  | q + 1 => by
    have ih := citedUpto_iff ad L cs c q
    unfold citedUpto
    by_cases ha : ad q = true
    · rw [if_pos ha, rowMarks_iff, ih]
      constructor
      · rintro (⟨i, hi, h⟩ | h)
        · exact ⟨i, by omega, h⟩
        · exact ⟨q, by omega, ha, h⟩
      · rintro ⟨i, hi, h1, h2⟩
        by_cases e : i = q
        · subst e; exact .inr h2
        · exact .inl ⟨i, by omega, h1, h2⟩
    · rw [if_neg ha, ih]
      constructor
      · rintro ⟨i, hi, h⟩
        exact ⟨i, by omega, h⟩
      · rintro ⟨i, hi, h1, h2⟩
        have : i ≠ q := fun e => ha (e ▸ h1)
        exact ⟨i, by omega, h1, h2⟩

set_option maxHeartbeats 1000000 in
theorem citedBy {w : World} {aa : Option Addr} {n : Nat} {ac : Option Addr} {ad : Nat → Bool} {A : Nat → Option Addr} {L C : Nat → Nat} {cs : Nat → Nat → Int} (h : Args w w.heap.size aa n ac n ad A L C cs) (ca cc : Nat)
    (hn : n ≤ 1024) (hL : ∀ i, i < n → L i ≤ 1048576) (hwf : ∀ i, i < n → ad i = true → ∀ j, j < L i → 0 ≤ cs i j ∧ cs i j < n) :
    Calls Try.prog 8 #[.slice aa n ca, .slice ac n cc] w fun e w' => e = .returned (.slice (some ⟨w.heap.size, 0, none⟩) n n) ∧ BoolsAt w' w.heap.size w.heap.size n (citedUpto ad L cs n) ∧ Below w.heap.size w w' := by
  have HA : Hid (Args w w.heap.size aa n ac n ad A L C cs) := h
  have HL : Hid (∀ i, i < n → L i ≤ 1048576) := hL
  have HW : Hid (∀ i, i < n → ad i = true → ∀ j, j < L i → 0 ≤ cs i j ∧ cs i j < n) := hwf
  clear h hL hwf
  go_enter Try.func8, Try.ntmps8
  go_wp2_with (at_make; refine wpList_mkbools _ rfl (.tmp 12) rfl n (by omega) rfl ?_)
  have hm0 := made_bools w w.heap.size n (Nat.le_refl _) (by unfold maxLen; omega)
  have hb0 : Below w.heap.size w (w.alloc (.cells (madeCells #[.bool false] n) 4)) := (Below.refl _ w).alloc (Nat.le_refl _) _
  go_loopw [7] (fun i wr => ∃ q : Nat, q ≤ n ∧ i = .int .i64 (q : Int) ∧ BoolsAt wr w.heap.size w.heap.size n (citedUpto ad L cs q) ∧ Below w.heap.size w wr) (fun i _ => n - (intOf i).toNat)
  case atStart => exact ⟨0, Nat.zero_le _, rfl, hm0, hb0⟩
  case round =>
    clear hm0 hb0
    obtain ⟨q, hq, rfl, hbl, hbe⟩ := hrel
    have HB : Hid (BoolsAt wr w.heap.size w.heap.size n (citedUpto ad L cs q)) := hbl
    have HE : Hid (Below w.heap.size w wr) := hbe
    clear hbl hbe
    by_cases hlt : q < n
    · obtain ⟨pb, po, ea, hpb, hcell⟩ := HA.out.a (by omega)
      have hca : wr.cell? ⟨pb, po + q, none⟩ = some (.bool (ad q)) := (HE.out.cell (by exact hpb)).trans (hcell q hlt)
      obtain ⟨rb, ro, er, hrb, hcell2⟩ := HA.out.c (by omega)
      have hcr : wr.cell? ⟨rb, ro + q, none⟩ = some (.slice (A q) (L q) (C q)) := (HE.out.cell (by exact hrb)).trans (hcell2 q hlt)
      have EA : Hid (aa = some ⟨pb, po, none⟩) := ea
      have ER : Hid (ac = some ⟨rb, ro, none⟩) := er
      have hLq := HL.out q hlt
      clear ea hcell hpb er hcell2 hrb
      by_cases ha : ad q = true
      · rw [ha] at hca
        have HAQ : Hid (ad q = true) := ha
        clear ha
        go_wp2_with (first | (refine wpList_idx _ rfl (.tmp 19) (.tmp 20) 22 4 rfl Try.underlying22 size4 aa n ca .i64 q pb po EA.out rfl rfl hlt ?_) | (refine wpList_idx _ rfl (.tmp 24) (.tmp 25) 23 31 rfl Try.underlying23 size31 ac n cc .i64 q rb ro ER.out rfl rfl hlt ?_))
        go_loopw [9] (fun j wr => ∃ t : Nat, t ≤ L q ∧ j = .int .i64 (t : Int) ∧ BoolsAt wr w.heap.size w.heap.size n (rowMarks cs q t (citedUpto ad L cs q)) ∧ Below w.heap.size w wr) (fun j _ => L q - (intOf j).toNat)
        case atStart => exact ⟨0, Nat.zero_le _, rfl, HB.out, HE.out⟩
        case round =>
          clear HB HE hca hcr
          obtain ⟨t, ht, rfl, hbl, hbe⟩ := hrel
          have HB : Hid (BoolsAt wr w.heap.size w.heap.size n (rowMarks cs q t (citedUpto ad L cs q))) := hbl
          have HE : Hid (Below w.heap.size w wr) := hbe
          clear hbl hbe
          by_cases htl : t < L q
          · obtain ⟨sb, so, es, hsb, hcell3⟩ := HA.out.r q hlt (by omega)
            obtain ⟨hc0, hcn⟩ := HW.out q hlt HAQ.out t htl
            obtain ⟨c, hc⟩ : ∃ c : Nat, cs q t = (c : Int) := ⟨(cs q t).toNat, by omega⟩
            have hcc : wr.cell? ⟨sb, so + t, none⟩ = some (.int .i32 (c : Int)) := by rw [← hc]; exact (HE.out.cell (by exact hsb)).trans (hcell3 t htl)
            have hcn2 : c < n := by omega
            have hx1 := HB.out.cell hcn2
            have hx2 := HB.out.frozen c
            have ES : Hid (A q = some ⟨sb, so, none⟩) := es
            have HC : Hid (cs q t = (c : Int)) := hc
            clear es hsb hcell3 hc0 hcn hc
            go_wp2_with (refine wpList_idx _ rfl (.tmp 35) (.tmp 36) 31 21 rfl Try.underlying31 size21 (A q) (L q) (C q) .i64 t sb so ES.out rfl rfl htl ?_)
            go_roundw
            case rel =>
              refine ⟨t + 1, by omega, by go_num, ?_, HE.out.setCell (by exact Nat.le_refl _) _⟩
              show BoolsAt _ _ _ _ (upd (rowMarks cs q t (citedUpto ad L cs q)) (cs q t).toNat true)
              rw [HC.out]
              exact HB.out.set c true
            case measure => simp [intOf]; omega
          · obtain rfl : t = L q := by omega
            go_wp2
            go_roundw
            case rel =>
              refine ⟨q + 1, by omega, by go_num, ?_, HE.out⟩
              unfold citedUpto
              rw [if_pos HAQ.out]
              exact HB.out
            case measure => simp [intOf]; omega
      · have ha' : ad q = false := by simpa using ha
        rw [ha'] at hca
        have HAQ : Hid (ad q = false) := ha'
        clear ha ha'
        go_wp2_with (first | (refine wpList_idx _ rfl (.tmp 19) (.tmp 20) 22 4 rfl Try.underlying22 size4 aa n ca .i64 q pb po EA.out rfl rfl hlt ?_))
        go_roundw
        case rel =>
          refine ⟨q + 1, by omega, by go_num, ?_, HE.out⟩
          unfold citedUpto
          rw [if_neg (by rw [HAQ.out]; simp)]
          exact HB.out
        case measure => simp [intOf]; omega
    · obtain rfl : q = n := by omega
      go_wp2
      go_ret
      exact ⟨rfl, HB.out, HE.out⟩

end Go.Proofs.Qxb6616545a.Mem
