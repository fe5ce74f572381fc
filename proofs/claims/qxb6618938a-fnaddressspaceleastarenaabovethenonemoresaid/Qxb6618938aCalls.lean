import Derived.Test.Qxb6618938aRows
import Derived.WalkKit
import Derived.ProofKit
/-! THE CONTRACTS OF THE HEAP's OWN FUNCTIONS, where no sum overflows. -/
namespace Go.Proofs.Qxb6618938a.Heap
open Go.RowKit

theorem ret_int {k : IntKind} {a b : Int} (h : a = b) : Ending.returned (.int k a) = .returned (.int k b) := by rw [h]

theorem ret_true {b : Bool} (h : b = true) : Ending.returned (.bool b) = .returned (.bool true) := by rw [h]

/-- WithIndex -/
theorem withIndex_any (n : Int) (w : World) (h0 : 0 ≤ n) (h1 : n ≤ 9205392754131861504) :
    Calls Try.prog 14 #[.int .i64 n] w fun e w' => e = .returned (.int .i64 (n + (n + 511) / 512)) ∧ w' = w := by
  go_enter Try.func14, Try.ntmps14
  go_wp2
  go_ret
  exact ⟨ret_int (by omega), rfl⟩

/-- the least multiple of 'u' that is not below 'n' -/
def up (n u : Int) : Int := (n + u - 1) / u * u

theorem up_ge (n u : Int) (h : 1 ≤ u) : n ≤ up n u := by
  unfold up
  have := Int.lt_ediv_add_one_mul_self (n + u - 1) (b := u) (by omega)
  have e : ((n + u - 1) / u + 1) * u = (n + u - 1) / u * u + u := by rw [Int.add_mul, Int.one_mul]
  omega

theorem up_lt (n u : Int) (h : 1 ≤ u) : up n u < n + u := by
  unfold up
  have := Int.ediv_mul_le (n + u - 1) (b := u) (by omega)
  omega

theorem up_mod (n u : Int) : up n u % u = 0 := by
  unfold up
  exact Int.mul_emod_left _ _

/-- no multiple of 'u' that is not below 'n' is less -/
theorem up_le (n u q : Int) (h : 1 ≤ u) (h1 : n ≤ q * u) : up n u ≤ q * u := by
  unfold up
  have e : (n + u - 1) / u < q + 1 := Int.ediv_lt_of_lt_mul (by omega) (by rw [Int.add_mul, Int.one_mul]; omega)
  exact Int.mul_le_mul_of_nonneg_right (by omega) (by omega)

/-- rounding up to a finer unit first changes nothing -/
theorem up_finer (n u v : Int) (h : 1 ≤ u) (h2 : 1 ≤ u * v) : up n u ≤ up n (u * v) ∧ up (up n u) (u * v) = up n (u * v) := by
  have e : ∃ q, up n (u * v) = q * u := ⟨(n + u * v - 1) / (u * v) * v, by unfold up; rw [Int.mul_assoc, Int.mul_comm v u]⟩
  obtain ⟨q, hq⟩ := e
  have a1 := up_ge n (u * v) h2
  have a2 := up_ge n u h
  have a3 : up n u ≤ up n (u * v) := by rw [hq]; exact up_le n u q h (by omega)
  have a4 : up (up n u) (u * v) ≤ up n (u * v) := up_le (up n u) (u * v) ((n + u * v - 1) / (u * v)) h2 a3
  have a5 := up_ge (up n u) (u * v) h2
  have a6 : up n (u * v) ≤ up (up n u) (u * v) := up_le n (u * v) ((up n u + u * v - 1) / (u * v)) h2 (Int.le_trans a2 a5)
  exact ⟨a3, by omega⟩

theorem mul_le_of_le_ediv (k u n : Int) (h : 1 ≤ u) (h1 : k ≤ n / u) : k * u ≤ n :=
  Int.le_trans (Int.mul_le_mul_of_nonneg_right h1 (by omega)) (Int.ediv_mul_le _ (by omega))

theorem le_mul_right (u v : Int) (h : 1 ≤ u) (h1 : 1 ≤ v) : u ≤ u * v := by
  have h := Int.mul_le_mul_of_nonneg_left h1 (show 0 ≤ u by omega)
  rw [Int.mul_one] at h
  exact h

theorem up_shift (n u k : Int) (h : 1 ≤ u) : up (n + k * u) u = up n u + k * u := by
  unfold up
  have e : n + k * u + u - 1 = (n + u - 1) + k * u := by omega
  rw [e, Int.add_mul_ediv_right _ _ (by omega), Int.add_mul]

theorem wrap_back (n u : Int) (h0 : 0 ≤ n + u - 1) (h1 : n + u - 1 ≤ 9223372036854775807) : wrap64 (wrap64 (n + u) - 1) = n + u - 1 := by
  unfold wrap64
  omega

/-- roundUp -/
theorem roundUp_any (n u : Int) (w : World) (h0 : 0 ≤ n) (h1 : 1 ≤ u) (h2 : n + u - 1 ≤ 9223372036854775807) :
    Calls Try.prog 15 #[.int .i64 n, .int .i64 u] w fun e w' => e = .returned (.int .i64 (up n u)) ∧ w' = w := by
  have b1 : 0 ≤ (n + u - 1) / u := Int.ediv_nonneg (by omega) (by omega)
  have b2 : 0 ≤ (n + u - 1) / u * u := Int.mul_nonneg b1 (by omega)
  have b3 : (n + u - 1) / u * u ≤ n + u - 1 := Int.ediv_mul_le _ (by omega)
  have b4 : (n + u - 1) / u ≤ n + u - 1 := Int.ediv_le_self _ (by omega)
  by_cases c : n + u ≤ 9223372036854775807
  · go_enter Try.func15, Try.ntmps15
    go_wp2
    go_ret
    exact ⟨ret_int (by unfold up; rfl), rfl⟩
  · have W : Hid (wrap64 (wrap64 (n + u) - 1) = n + u - 1) := wrap_back n u (by omega) h2
    have p0 : 0 ≤ wrap64 (wrap64 (n + u) - 1) := by rw [W.out]; omega
    have p1 : wrap64 (wrap64 (n + u) - 1) ≤ 9223372036854775807 := by rw [W.out]; omega
    have p2 : wrap64 (wrap64 (n + u) - 1) / u * u ≤ 9223372036854775807 := by rw [W.out]; omega
    have p3 : 0 ≤ wrap64 (wrap64 (n + u) - 1) / u * u := by rw [W.out]; omega
    have p4 : 0 ≤ wrap64 (wrap64 (n + u) - 1) / u := by rw [W.out]; omega
    have p5 : wrap64 (wrap64 (n + u) - 1) / u ≤ 9223372036854775807 := by rw [W.out]; omega
    go_enter Try.func15, Try.ntmps15
    go_wp2
    go_ret
    exact ⟨ret_int (by unfold up; rw [W.out]), rfl⟩

/-- ZZroundUp -/
theorem zzRoundUp_any (n u : Int) (w : World) (h0 : 0 ≤ n) (h1 : 1 ≤ u) (h2 : n + u - 1 ≤ 9223372036854775807) :
    Calls Try.prog 11 #[.int .i64 n, .int .i64 u] w fun e w' => e = .returned (.int .i64 (up n u)) ∧ w' = w := by
  go_enter Try.func11, Try.ntmps11
  go_wp2_with (go_at_call 15; refine (roundUp_any _ _ _ (by omega) (by omega) (by omega)).mono ?_; rintro e w' ⟨rfl, rfl⟩)
  go_ret
  exact ⟨rfl, rfl⟩

/-- Mapped -/
theorem mapped_any (n : Int) (w : World) (h0 : 0 ≤ n) (h2 : n ≤ 9223372036720558080) :
    Calls Try.prog 12 #[.int .i64 n] w fun e w' => e = .returned (.int .i64 (up n 4194304)) ∧ w' = w := by
  go_enter Try.func12, Try.ntmps12
  go_wp2_with (go_at_call 15; refine (roundUp_any _ _ _ (by omega) (by omega) (by omega)).mono ?_; rintro e w' ⟨rfl, rfl⟩)
  go_ret
  exact ⟨rfl, rfl⟩

/-- what AddressSpace answers -/
def space (n : Int) : Int := up n 67108864 + 67108864

theorem space_finer (n : Int) : up (up n 4194304) 67108864 = up n 67108864 := by
  have h := (up_finer n 4194304 16 (by omega) (by omega)).2
  rw [show (4194304 * 16 : Int) = 67108864 from by omega] at h
  exact h

theorem space_mod (n : Int) : space n % 67108864 = 0 := by
  have := up_mod n 67108864
  unfold space
  omega

theorem space_ge (n : Int) : n + 67108864 ≤ space n := by
  have := up_ge n 67108864 (by omega)
  unfold space
  omega

theorem space_lt (n : Int) : space n < n + 134217728 := by
  have := up_lt n 67108864 (by omega)
  unfold space
  omega

theorem space_le (n : Int) (h : n ≤ 9223372036720558080) : space n ≤ 9223372036787666944 := by
  have := up_le n 67108864 137438953470 (by omega) (by omega)
  unfold space
  omega

theorem mapped_le_space (n : Int) : up n 4194304 + 67108864 ≤ space n := by
  have h := (up_finer n 4194304 16 (by omega) (by omega)).1
  rw [show (4194304 * 16 : Int) = 67108864 from by omega] at h
  unfold space
  omega

theorem space_mapped (n : Int) : space (up n 4194304) = space n := by
  unfold space
  rw [space_finer]

theorem space_shift (n k : Int) : space (n + k * 67108864) = space n + k * 67108864 := by
  unfold space
  rw [up_shift n 67108864 k (by omega)]
  omega

/-- AddressSpace -/
theorem addressSpace_any (n : Int) (w : World) (h0 : 0 ≤ n) (h2 : n ≤ 9223372036720558080) :
    Calls Try.prog 13 #[.int .i64 n] w fun e w' => e = .returned (.int .i64 (space n)) ∧ w' = w := by
  have a1 := up_ge n 4194304 (by omega)
  have a2 := up_le n 4194304 2199023255520 (by omega) (by omega)
  have F : Hid (up (up n 4194304) 67108864 = up n 67108864) := space_finer n
  have a3 := up_ge (up n 4194304) 67108864 (by omega)
  have a4 := up_le (up n 4194304) 67108864 137438953470 (by omega) (by omega)
  go_enter Try.func13, Try.ntmps13
  go_wp2_with (first
    | (go_at_call 12; refine (mapped_any _ _ (by omega) (by omega)).mono ?_; rintro e w' ⟨rfl, rfl⟩)
    | (go_at_call 15; refine (roundUp_any _ _ _ (by omega) (by omega) (by omega)).mono ?_; rintro e w' ⟨rfl, rfl⟩))
  go_ret
  exact ⟨ret_int (by unfold space; rw [F.out]), rfl⟩

end Go.Proofs.Qxb6618938a.Heap
