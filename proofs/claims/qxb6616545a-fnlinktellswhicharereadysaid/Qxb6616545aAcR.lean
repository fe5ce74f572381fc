import Derived.Test.Qxb6616545aBl
import Derived.Test.Qxb6616545aTl
/-! ZZunreadyLen, ZZunready, ZZreadied, countTrue -/
namespace Go.Proofs.Qxb6616545a.Mem
set_option linter.unusedVariables false
set_option linter.unusedSimpArgs false
open Go.RowKit

/-- a row of int32 that can be read -/
def RowI (w : World) (a : Option Addr) (n : Nat) (f : Nat → Int) : Prop := 0 < n → ∃ b, a = some ⟨b, 0, none⟩ ∧ b < w.heap.size ∧ ∀ j, j < n → w.cell? ⟨b, j, none⟩ = some (.int .i32 (f j))

theorem RowI.below {w w' : World} {a : Option Addr} {n : Nat} {f : Nat → Int} (h : RowI w a n f) (hb : Below w.heap.size w w') : RowI w' a n f := by
  intro h0
  obtain ⟨b, e, hl, hc⟩ := h h0
  exact ⟨b, e, Nat.lt_of_lt_of_le hl hb.size, fun j hj => (hb.cell (by exact hl)).trans (hc j hj)⟩

theorem IntsAt.rowI {w : World} {B : Nat} {v : Value} {n : Nat} {f : Nat → Int} (h : IntsAt w B v n f) : ∃ a c, v = .slice a n c ∧ RowI w a n f := by
  obtain ⟨a, c, e, h0, h1⟩ := Own.form h
  refine ⟨a, c, e, fun hn => ?_⟩
  cases a with
  | none => have := (h0 rfl).1; omega
  | some p =>
    have hp := h1 p rfl
    subst e
    have hl := Own.lt h p.block rfl
    rw [hp] at h
    refine ⟨p.block, by rw [← hp], hl.2, fun j hj => ?_⟩
    exact Own.cell h (by omega)

theorem unreadyLen {w : World} {T : Nat} {a : Option Addr} {n c : Nat} (hc : w.cell? ⟨T, 141, none⟩ = some (.slice a n c)) :
    Calls Try.prog 15 #[.pointer (some ⟨T, 0, none⟩)] w fun e w' => e = .returned (.int .i64 (n : Nat)) ∧ w' = w := by
  go_enter Try.func15, Try.ntmps15
  go_wp2
  go_ret
  exact ⟨rfl, rfl⟩

theorem unready {w : World} {T : Nat} {a : Option Addr} {n c : Nat} {f : Nat → Int} (hc : w.cell? ⟨T, 141, none⟩ = some (.slice a n c)) (hr : RowI w a n f) (hn : n ≤ 1024) (i : Nat) (hi : i < n) :
    Calls Try.prog 16 #[.pointer (some ⟨T, 0, none⟩), .int .i32 (i : Int)] w fun e w' => e = .returned (.int .i32 (f i)) ∧ w' = w := by
  obtain ⟨b, ea, hl, hcell⟩ := hr (by omega)
  have hci := hcell i hi
  have EA : Hid (a = some ⟨b, 0, none⟩) := ea
  have hci' : w.cell? ⟨b, 0 + i, none⟩ = some (.int .i32 (f i)) := by rw [Nat.zero_add]; exact hci
  clear ea hcell hl hr
  go_enter Try.func16, Try.ntmps16
  go_wp2_with (refine wpList_idx _ rfl (.tmp 8) (.tmp 9) 31 21 rfl Try.underlying31 size21 a n c .i32 i b 0 EA.out rfl rfl hi ?_)
  go_ret
  exact ⟨rfl, rfl⟩

theorem readied {w : World} {T : Nat} {a : Option Addr} {n c : Nat} (hc : w.cell? ⟨T, 142, none⟩ = some (.slice a n c)) :
    Calls Try.prog 17 #[.pointer (some ⟨T, 0, none⟩)] w fun e w' => e = .returned (.slice a n c) ∧ w' = w := by
  go_enter Try.func17, Try.ntmps17
  go_wp2
  go_ret
  exact ⟨rfl, rfl⟩

theorem countTrue {w : World} {B g n : Nat} {f : Nat → Bool} (h : BoolsAt w B g n f) (hn : n ≤ 1024) :
    Calls Try.prog 18 #[.slice (some ⟨g, 0, none⟩) n n] w fun e w' => e = .returned (.int .i64 (cnt f n : Nat)) ∧ w' = w := by
  have HB : Hid (BoolsAt w B g n f) := h
  clear h
  go_enter Try.func18, Try.ntmps18
  go_wp2_with fail
  go_loop [3, 4] (fun k i => ∃ q : Nat, q ≤ n ∧ i = .int .i64 (q : Int) ∧ k = .int .i64 (cnt f q : Nat)) (fun _ i => n - (intOf i).toNat)
  case atStart => exact ⟨0, Nat.zero_le _, rfl, rfl⟩
  case round =>
    obtain ⟨q, hq, rfl, rfl⟩ := hrel
    have hc1 := cnt_le f q
    by_cases hlt : q < n
    · have hx := HB.out.cell hlt
      have hs := cnt_succ f q
      cases hf : f q with
      | true =>
        rw [hf] at hx hs
        simp only [if_true] at hs
        have HS : Hid (cnt f (q + 1) = cnt f q + 1) := hs
        clear hf hs
        go_wp2
        go_round
        case rel => exact ⟨q + 1, by omega, by go_num, by rw [HS.out] <;> go_num⟩
        case measure => simp [intOf]; omega
      | false =>
        rw [hf] at hx hs
        simp only [Bool.false_eq_true, if_false, Nat.add_zero] at hs
        have HS : Hid (cnt f (q + 1) = cnt f q) := hs
        clear hf hs
        go_wp2
        go_round
        case rel => exact ⟨q + 1, by omega, by go_num, by rw [HS.out]⟩
        case measure => simp [intOf]; omega
    · obtain rfl : q = n := by omega
      go_wp2
      go_ret
      exact ⟨rfl, rfl⟩

end Go.Proofs.Qxb6616545a.Mem
