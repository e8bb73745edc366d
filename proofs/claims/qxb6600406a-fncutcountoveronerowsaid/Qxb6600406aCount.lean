/-
  Seat b6600406a: the walk of FnCutCountOverOneRow (function 6).
-/
import Derived.Test.Qxb6600406aCut
import Derived.OpenShut
namespace Go.Proofs.Qxb6600406a.Cutting
open Go.RowKit

theorem info5 : (Try.prog.info? 5).map (fun i => (i.zero, i.size, i.bytes)) = some (some (.int .u8 0), 1, 1) := by kernel_rfl

/-! ### The plain counts: of the lengths below n, how many are cut -/
def one (p : Prop) [Decidable p] : Int := if p then 1 else 0
theorem one_pos {p : Prop} [Decidable p] (h : p) : one p = 1 := if_pos h
theorem one_neg {p : Prop} [Decidable p] (h : ¬ p) : one p = 0 := if_neg h

/-- A zero-filled tail: of the lengths below min n r all but 0, 2 and r - 5. -/
def zc (n r : Nat) : Int := (min n r : Nat) - one (0 < n) - one (2 < n) - one (r - 5 < n)
/-- A tail of marks: r - 4 besides. -/
def mc (n r : Nat) : Int := zc n r - one (r - 4 < n)

theorem zc_bd (n r : Nat) : -3 ≤ zc n r ∧ zc n r ≤ r := by unfold zc one; split <;> split <;> split <;> omega
theorem mc_bd (n r : Nat) : -4 ≤ mc n r ∧ mc n r ≤ r := by have := zc_bd n r; unfold mc one; split <;> omega
theorem zc_zero (r : Nat) : zc 0 r = 0 := by unfold zc one; simp
theorem mc_zero (r : Nat) : mc 0 r = 0 := by unfold mc; rw [zc_zero]; unfold one; simp

theorem zc_step (n r : Nat) (hr : 8 ≤ r) (h : n < r) : zc (n + 1) r = zc n r + (if cutV n r 0 = true then 1 else 0) := by
  by_cases h0 : n = 0 ∨ n = 2 ∨ (n : Int) = (r : Int) - 5
  · rw [cutV_stop _ _ _ h0]; simp only [Bool.false_eq_true, if_false]; unfold zc one; repeat' split
    all_goals omega
  · have e : cutV n r 0 = true := by
      by_cases h4 : (n : Int) = (r : Int) - 4
      · rw [cutV_marked _ _ _ h0 h4]; rfl
      · rw [cutV_plain _ _ _ h0 h4]; simp; omega
    rw [e]; simp only [if_true]; unfold zc one; repeat' split
    all_goals omega
theorem mc_step (n r : Nat) (hr : 8 ≤ r) (h : n < r) : mc (n + 1) r = mc n r + (if cutV n r 83 = true then 1 else 0) := by
  by_cases h0 : n = 0 ∨ n = 2 ∨ (n : Int) = (r : Int) - 5
  · rw [cutV_stop _ _ _ h0]; simp only [Bool.false_eq_true, if_false]; unfold mc zc one; repeat' split
    all_goals omega
  · by_cases h4 : (n : Int) = (r : Int) - 4
    · rw [cutV_marked _ _ _ h0 h4]; simp only [bne_self_eq_false, Bool.false_eq_true, if_false]; unfold mc zc one; repeat' split
      all_goals omega
    · have e : cutV n r 83 = true := by rw [cutV_plain _ _ _ h0 h4]; simp; omega
      rw [e]; simp only [if_true]; unfold mc zc one; repeat' split
      all_goals omega
theorem zc_above (n r : Nat) (hr : 8 ≤ r) (h : r ≤ n) : zc n r = r - 3 := by unfold zc one; repeat' split
                                                                             all_goals omega
theorem mc_above (n r : Nat) (hr : 8 ≤ r) (h : r ≤ n) : mc n r = r - 4 := by unfold mc; rw [zc_above n r hr h]; unfold one; split <;> omega
theorem cutV_above (n r : Nat) (x : Int) (hr : 8 ≤ r) (h : r ≤ n) : cutV n r x = false := by
  rw [cutV_plain _ _ _ (by omega) (by omega)]; simp; omega

end Go.Proofs.Qxb6600406a.Cutting
