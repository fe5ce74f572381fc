import Derived.Test.Qxb6616545aApp
import Derived.Lib.AppendZeros
/-! 'grow': the counts lengthened with zeros. -/
namespace Go.Proofs.Qxb6616545a.Mem
set_option linter.unusedVariables false
set_option linter.unusedSimpArgs false
open Go.RowKit

theorem grow_same (w : World) (a : Option Addr) (n c : Nat) :
    Calls Try.prog 29 #[.slice a n c, .int .i64 (n : Int)] w fun e w' => e = .returned (.slice a n c) ∧ w' = w := by
  go_enter Try.func29, Try.ntmps29
  go_wp2
  go_ret
  exact ⟨rfl, rfl⟩

theorem zeros_one (z : Value) (n : Nat) : (Builtin.zeroCells #[z] n).toList = List.replicate n z := by
  apply List.ext_getElem?
  intro j
  by_cases hj : j < n
  · simp [Builtin.zeroCells, hj, Nat.mod_one]
  · simp [Builtin.zeroCells, hj]

theorem zeros_own (w : World) (B n : Nat) (hn : n ≤ 1024) (hB : B ≤ w.heap.size) (c : Nat) (hc : n ≤ c) (hm : c ≤ maxLen) :
    IntsAt (w.drew.alloc (.cells (Builtin.zeroCells (Value.int .i32 0).cells n ++ Builtin.zeroCells (Value.int .i32 0).cells (c - n)) 21)) B (.slice (some ⟨w.heap.size, 0, none⟩) n c) n (fun _ => 0) := by
  have e1 : (Value.int .i32 0).cells = #[Value.int .i32 0] := rfl
  have e2 : (Builtin.zeroCells (Value.int .i32 0).cells n ++ Builtin.zeroCells (Value.int .i32 0).cells (c - n)).toList = List.replicate n (Value.int .i32 0) ++ List.replicate (c - n) (Value.int .i32 0) := by
    rw [e1, Array.toList_append, zeros_one, zeros_one]
  refine ⟨List.replicate n (.int .i32 0), ⟨by simp, .inr ⟨w.heap.size, c, _, rfl, hB, heap_alloc_new w.drew _, hc, hm, ?_, ?_⟩⟩, fun j hj => ?_⟩
  · rw [← Array.length_toList, e2]
    simp
    omega
  · rw [e2]
    simp
  · simp at hj
    simp [hj]

theorem grow_new (w : World) (B n : Nat) (hn : n ≤ 1024) (hp : 0 < n) (hB : B ≤ w.heap.size) :
    Calls Try.prog 29 #[.slice none 0 0, .int .i64 (n : Int)] w fun e w' => ∃ c, e = .returned (.slice (some ⟨w.heap.size, 0, none⟩) n c) ∧ IntsAt w' B (.slice (some ⟨w.heap.size, 0, none⟩) n c) n (fun _ => 0) ∧ w.grownBy w' none := by
  obtain ⟨i0, hi, hz0, hz1, hz2⟩ := info_parts info21
  have hr := fun ty => Lib.run_append_nil_zeros (P := Try.prog) w 31 3 ty 21 i0 (.int .i32 0) .i64 .i64 Try.underlying31 Try.underlying3 hi hz0 n hp (by omega) (by omega) (by rw [hz2]; omega)
  have HR : Hid (∀ ty, (Builtin.append_ #[31, 3] ty #[.slice none 0 0, .int .i64 (n : Int)]).run Try.prog w = .ok (.slice (some ⟨w.heap.size, 0, none⟩) n (grownCap w n 0 21)) (w.drew.alloc (.cells (Builtin.zeroCells (Value.int .i32 0).cells n ++ Builtin.zeroCells (Value.int .i32 0).cells (grownCap w n 0 21 - n)) 21))) := hr
  clear hr hi hz0 hz1 hz2
  go_enter Try.func29, Try.ntmps29
  go_wp2_with (at_builtin; refine Lib.wpList_append_run _ rfl (.tmp 9) (.tmp 13) 31 3 rfl _ _ rfl rfl _ _ (HR.out _) ?_)
  go_ret
  refine ⟨_, rfl, ?_, ⟨rfl, rfl, rfl, by simp, fun k hk _ => ?_⟩⟩
  · exact zeros_own w B n hn hB _ (grownCap_ge w n 0 21) (grownCap_le_maxLen w n 0 21 (by unfold maxLen; omega))
  · exact Below.heap_alloc w.drew _ k hk
end Go.Proofs.Qxb6616545a.Mem
