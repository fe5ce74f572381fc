import Derived.Test.Qxb6616545aArg
namespace Go.Proofs.Qxb6616545a.Mem
set_option linter.unusedVariables false
set_option linter.unusedSimpArgs false
open Go.RowKit

theorem zpost_no {w : World} {n m : Nat} {L : Nat → Nat} : ZPost w w (.returned (.bool false)) n m L := ⟨rfl, false, rfl, fun h => by cases h⟩

set_option maxHeartbeats 1000000 in
theorem zzBytes5 {w : World} {Z : Nat} {aa : Option Addr} {n : Nat} {ac : Option Addr} {m : Nat} {ad : Nat → Bool} {A : Nat → Option Addr} {L C : Nat → Nat} {cs : Nat → Nat → Int} (h : Args w Z aa n ac m ad A L C cs) (ca cc : Nat) :
    Calls Try.prog 5 #[.slice aa n ca, .slice ac m cc] w fun e w' => ZPost w w' e n m L := by
  have hln := h.ln
  have hlm := h.lm
  have HA : Hid (Args w Z aa n ac m ad A L C cs) := h
  clear h
  by_cases c1 : 1048576 < n
  · go_enter Try.func5, Try.ntmps5
    go_wp2
    go_ret
    exact zpost_no
  by_cases c2 : 1048576 < m
  · go_enter Try.func5, Try.ntmps5
    go_wp2
    go_ret
    exact zpost_no
  by_cases c3 : 1048576 < n + m
  · go_enter Try.func5, Try.ntmps5
    go_wp2
    go_ret
    exact zpost_no
  go_enter Try.func5, Try.ntmps5
  go_wp2_with fail
  go_loop [5, 6] (fun z i => ∃ j : Nat, j ≤ m ∧ i = .int .i64 (j : Int) ∧ z = .int .i64 ((n + m + sumL L j : Nat) : Int) ∧ n + m + sumL L j ≤ 1048576) (fun _ i => m - (intOf i).toNat)
  case atStart => exact ⟨0, Nat.zero_le _, rfl, by go_num, by simp [sumL]; omega⟩
  case round =>
    obtain ⟨j, hj, rfl, rfl, hz⟩ := hrel
    by_cases hlt : j < m
    · obtain ⟨pb, po, ec, hpb, hcell⟩ := HA.out.c (by omega)
      have hc1 := hcell j hlt
      have hL := HA.out.lL j hlt
      have EC : Hid (ac = some ⟨pb, po, none⟩) := ec
      have hS : Hid (sumL L (j + 1) = sumL L j + L j) := rfl
      clear ec hcell
      by_cases c4 : 1048576 < L j
      · go_wp2_with (first | (refine wpList_idx _ rfl (.tmp 31) (.tmp 32) 23 31 rfl Try.underlying23 size31 ac m cc .i64 j pb po EC.out rfl rfl hlt ?_) | (refine wpList_idx _ rfl (.tmp 38) (.tmp 39) 23 31 rfl Try.underlying23 size31 ac m cc .i64 j pb po EC.out rfl rfl hlt ?_))
        go_ret
        exact zpost_no
      by_cases c5 : 1048576 < n + m + sumL L j + L j
      · go_wp2_with (first | (refine wpList_idx _ rfl (.tmp 31) (.tmp 32) 23 31 rfl Try.underlying23 size31 ac m cc .i64 j pb po EC.out rfl rfl hlt ?_) | (refine wpList_idx _ rfl (.tmp 38) (.tmp 39) 23 31 rfl Try.underlying23 size31 ac m cc .i64 j pb po EC.out rfl rfl hlt ?_))
        go_ret
        exact zpost_no
      · go_wp2_with (first | (refine wpList_idx _ rfl (.tmp 31) (.tmp 32) 23 31 rfl Try.underlying23 size31 ac m cc .i64 j pb po EC.out rfl rfl hlt ?_) | (refine wpList_idx _ rfl (.tmp 38) (.tmp 39) 23 31 rfl Try.underlying23 size31 ac m cc .i64 j pb po EC.out rfl rfl hlt ?_))
        go_round
        case rel => exact ⟨j + 1, by omega, by go_num, by rw [hS.out]; go_num, by rw [hS.out]; omega⟩
        case measure => simp [intOf]; omega
    · obtain rfl : j = m := by omega
      go_wp2
      go_ret
      exact ⟨rfl, true, rfl, fun _ => hz⟩

set_option maxHeartbeats 1000000 in
theorem zzBytes14 {w : World} {Z : Nat} {aa : Option Addr} {n : Nat} {ac : Option Addr} {m : Nat} {ad : Nat → Bool} {A : Nat → Option Addr} {L C : Nat → Nat} {cs : Nat → Nat → Int} (h : Args w Z aa n ac m ad A L C cs) (ca cc : Nat) :
    Calls Try.prog 14 #[.slice aa n ca, .slice ac m cc] w fun e w' => ZPost w w' e n m L := by
  have hln := h.ln
  have hlm := h.lm
  have HA : Hid (Args w Z aa n ac m ad A L C cs) := h
  clear h
  by_cases c1 : 1048576 < n
  · go_enter Try.func14, Try.ntmps14
    go_wp2
    go_ret
    exact zpost_no
  by_cases c2 : 1048576 < m
  · go_enter Try.func14, Try.ntmps14
    go_wp2
    go_ret
    exact zpost_no
  by_cases c3 : 1048576 < n + m
  · go_enter Try.func14, Try.ntmps14
    go_wp2
    go_ret
    exact zpost_no
  go_enter Try.func14, Try.ntmps14
  go_wp2_with fail
  go_loop [5, 6] (fun z i => ∃ j : Nat, j ≤ m ∧ i = .int .i64 (j : Int) ∧ z = .int .i64 ((n + m + sumL L j : Nat) : Int) ∧ n + m + sumL L j ≤ 1048576) (fun _ i => m - (intOf i).toNat)
  case atStart => exact ⟨0, Nat.zero_le _, rfl, by go_num, by simp [sumL]; omega⟩
  case round =>
    obtain ⟨j, hj, rfl, rfl, hz⟩ := hrel
    by_cases hlt : j < m
    · obtain ⟨pb, po, ec, hpb, hcell⟩ := HA.out.c (by omega)
      have hc1 := hcell j hlt
      have hL := HA.out.lL j hlt
      have EC : Hid (ac = some ⟨pb, po, none⟩) := ec
      have hS : Hid (sumL L (j + 1) = sumL L j + L j) := rfl
      clear ec hcell
      by_cases c4 : 1048576 < L j
      · go_wp2_with (first | (refine wpList_idx _ rfl (.tmp 31) (.tmp 32) 23 31 rfl Try.underlying23 size31 ac m cc .i64 j pb po EC.out rfl rfl hlt ?_) | (refine wpList_idx _ rfl (.tmp 38) (.tmp 39) 23 31 rfl Try.underlying23 size31 ac m cc .i64 j pb po EC.out rfl rfl hlt ?_))
        go_ret
        exact zpost_no
      by_cases c5 : 1048576 < n + m + sumL L j + L j
      · go_wp2_with (first | (refine wpList_idx _ rfl (.tmp 31) (.tmp 32) 23 31 rfl Try.underlying23 size31 ac m cc .i64 j pb po EC.out rfl rfl hlt ?_) | (refine wpList_idx _ rfl (.tmp 38) (.tmp 39) 23 31 rfl Try.underlying23 size31 ac m cc .i64 j pb po EC.out rfl rfl hlt ?_))
        go_ret
        exact zpost_no
      · go_wp2_with (first | (refine wpList_idx _ rfl (.tmp 31) (.tmp 32) 23 31 rfl Try.underlying23 size31 ac m cc .i64 j pb po EC.out rfl rfl hlt ?_) | (refine wpList_idx _ rfl (.tmp 38) (.tmp 39) 23 31 rfl Try.underlying23 size31 ac m cc .i64 j pb po EC.out rfl rfl hlt ?_))
        go_round
        case rel => exact ⟨j + 1, by omega, by go_num, by rw [hS.out]; go_num, by rw [hS.out]; omega⟩
        case measure => simp [intOf]; omega
    · obtain rfl : j = m := by omega
      go_wp2
      go_ret
      exact ⟨rfl, true, rfl, fun _ => hz⟩

end Go.Proofs.Qxb6616545a.Mem
