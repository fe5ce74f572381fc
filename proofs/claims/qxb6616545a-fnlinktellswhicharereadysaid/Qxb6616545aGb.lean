import Derived.Test.Qxb6616545aArg
namespace Go.Proofs.Qxb6616545a.Mem
set_option linter.unusedVariables false
set_option linter.unusedSimpArgs false
open Go.RowKit

/-- what the size guard says -/
def GPost (w w' : World) (e : Ending) (n m : Nat) : Prop := w' = w ∧ ∃ b, e = .returned (.bool b) ∧ (b = true → n ≤ 1024 ∧ m ≤ 1024)

theorem gpost_no {w : World} {n m : Nat} : GPost w w (.returned (.bool false)) n m := ⟨rfl, false, rfl, fun h => by cases h⟩

set_option maxHeartbeats 1000000 in
theorem graphBytes {w : World} {Z : Nat} {aa : Option Addr} {n : Nat} {ac : Option Addr} {m : Nat} {ad : Nat → Bool} {A : Nat → Option Addr} {L C : Nat → Nat} {cs : Nat → Nat → Int} (h : Args w Z aa n ac m ad A L C cs) (ca cc : Nat) :
    Calls Try.prog 6 #[.slice aa n ca, .slice ac m cc, .int .i64 0] w fun e w' => GPost w w' e n m := by
  have hln := h.ln
  have hlm := h.lm
  have HA : Hid (Args w Z aa n ac m ad A L C cs) := h
  clear h
  by_cases c1 : 1024 < n
  · go_enter Try.func6, Try.ntmps6
    go_wp2
    go_ret
    exact gpost_no
  by_cases c2 : 1024 < m
  · go_enter Try.func6, Try.ntmps6
    go_wp2
    go_ret
    exact gpost_no
  go_enter Try.func6, Try.ntmps6
  go_wp2_with fail
  go_loop [7, 8] (fun z i => ∃ j t : Nat, j ≤ m ∧ i = .int .i64 (j : Int) ∧ z = .int .i64 (t : Int) ∧ t ≤ 1048576) (fun _ i => m - (intOf i).toNat)
  case atStart => exact ⟨0, n + 24 * m, Nat.zero_le _, rfl, by go_num, by omega⟩
  case round =>
    obtain ⟨j, t, hj, rfl, rfl, hz⟩ := hrel
    by_cases hlt : j < m
    · obtain ⟨pb, po, ec, hpb, hcell⟩ := HA.out.c (by omega)
      have hc1 := hcell j hlt
      have hL := HA.out.lL j hlt
      have EC : Hid (ac = some ⟨pb, po, none⟩) := ec
      clear ec hcell
      by_cases c4 : 1048576 < L j
      · go_wp2_with (first | (refine wpList_idx _ rfl (.tmp 33) (.tmp 34) 23 31 rfl Try.underlying23 size31 ac m cc .i64 j pb po EC.out rfl rfl hlt ?_) | (refine wpList_idx _ rfl (.tmp 40) (.tmp 41) 23 31 rfl Try.underlying23 size31 ac m cc .i64 j pb po EC.out rfl rfl hlt ?_))
        go_ret
        exact gpost_no
      by_cases c5 : 1048576 < t + 4 * L j
      · go_wp2_with (first | (refine wpList_idx _ rfl (.tmp 33) (.tmp 34) 23 31 rfl Try.underlying23 size31 ac m cc .i64 j pb po EC.out rfl rfl hlt ?_) | (refine wpList_idx _ rfl (.tmp 40) (.tmp 41) 23 31 rfl Try.underlying23 size31 ac m cc .i64 j pb po EC.out rfl rfl hlt ?_))
        go_ret
        exact gpost_no
      · go_wp2_with (first | (refine wpList_idx _ rfl (.tmp 33) (.tmp 34) 23 31 rfl Try.underlying23 size31 ac m cc .i64 j pb po EC.out rfl rfl hlt ?_) | (refine wpList_idx _ rfl (.tmp 40) (.tmp 41) 23 31 rfl Try.underlying23 size31 ac m cc .i64 j pb po EC.out rfl rfl hlt ?_))
        go_round
        case rel => exact ⟨j + 1, t + 4 * L j, by omega, by go_num, by go_num, by omega⟩
        case measure => simp [intOf]; omega
    · go_wp2
      go_ret
      exact ⟨rfl, true, rfl, fun _ => by omega⟩

end Go.Proofs.Qxb6616545a.Mem
