/-
  Seat b6600406a: the contract of format.DataRows (function 8), and the plain arithmetic of the two laws over it.
-/
import Derived.Test.Qxb6600406aRows
import Derived.WalkKit
namespace Go.Proofs.Qxb6600406a.Data
open Go.RowKit

theorem ret_int {k : IntKind} {a b : Int} (h : a = b) : Ending.returned (.int k a) = .returned (.int k b) := by rw [h]

/-- What DataRows computes, as a plain function. -/
def rowsOf (n : Int) : Int := if n ≤ 0 then 0 else n - 1 - (n - 1) / 10001

theorem rowsOf_nonpos (n : Int) (h : n ≤ 0) : rowsOf n = 0 := by unfold rowsOf; rw [if_pos h]
theorem rowsOf_pos (n : Int) (h : 0 < n) : rowsOf n = n - 1 - (n - 1) / 10001 := by unfold rowsOf; rw [if_neg (by omega)]

/-- The bounds of what DataRows computes: no sum over it wraps. -/
theorem rowsOf_bd (n : Int) (h : n ≤ 9223372036854775807) : 0 ≤ rowsOf n ∧ rowsOf n ≤ 9223372036854775806 := by
  unfold rowsOf; split <;> omega

/-- One row more: a data row adds one. -/
theorem step_data (n : Int) (h : 1 ≤ n) (hr : n % 10001 ≠ 0) : rowsOf (n + 1) = rowsOf n + 1 := by
  rw [rowsOf_pos _ (by omega), rowsOf_pos _ (by omega)]; omega

/-- One row more: the header and a checksum row add none. -/
theorem step_other (n : Int) (h : n < 1 ∨ n % 10001 = 0) : rowsOf (n + 1) = rowsOf n := by
  unfold rowsOf; split <;> split <;> omega

/-- The k-th data row stands at 1 + k + k / 10000. -/
theorem place_at (k : Int) (h : 0 ≤ k) : rowsOf (1 + k + k / 10000) = k := by
  rw [rowsOf_pos _ (by omega)]; omega
theorem place_through (k : Int) (h : 0 ≤ k) : rowsOf (1 + k + k / 10000 + 1) = k + 1 := by
  rw [rowsOf_pos _ (by omega)]; omega

set_option maxHeartbeats 400000 in
theorem dataRows_any (n : Int) (h0 : -9223372036854775808 ≤ n) (h1 : n ≤ 9223372036854775807) (w : World) :
    Calls Try.prog 8 #[.int .i64 n] w fun e w' => e = .returned (.int .i64 (rowsOf n)) ∧ w' = w := by
  by_cases h : n ≤ 0
  · go_enter Try.func8, Try.ntmps8
    go_wp2
    go_ret
    exact ⟨ret_int (rowsOf_nonpos n h).symm, rfl⟩
  · go_enter Try.func8, Try.ntmps8
    go_wp2
    go_ret
    exact ⟨ret_int (rowsOf_pos n (by omega)).symm, rfl⟩
end Go.Proofs.Qxb6600406a.Data
