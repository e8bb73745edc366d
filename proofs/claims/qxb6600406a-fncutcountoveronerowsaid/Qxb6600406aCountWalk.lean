/-
  Seat b6600406a: the walk of FnCutCountOverOneRow (function 6).
-/
import Derived.Test.Qxb6600406aCount
namespace Go.Proofs.Qxb6600406a.Cutting
open Go.RowKit

/-- What the two rows are at the first loop's head, k marks laid. -/
structure Rows2 (w wr : World) (R k : Nat) : Prop where
  zeros : wr.rowIs w.heap.size 5 (2 * R) (fun _ => .int .u8 0)
  marks : wr.rowIs (w.heap.size + 1) 5 (2 * R) (fun j => if j < k then .int .u8 83 else .int .u8 0)
  below : Below w.heap.size w wr

theorem rows2_start (w : World) (R : Nat) : Rows2 w ((w.alloc (.cells (madeCells #[.int .u8 0] (2 * R)) 5)).alloc (.cells (madeCells #[.int .u8 0] (2 * R)) 5)) R 0 := by
  refine ⟨(World.rowIs_made w _ _ _).alloc _, ?_, ((Below.refl _ _).alloc (Nat.le_refl _) _).alloc (by simp) _⟩
  have h := World.rowIs_made (w.alloc (.cells (madeCells #[.int .u8 0] (2 * R)) 5)) (.int .u8 0) (2 * R) 5
  simp only [World.size_alloc] at h
  exact h.congr fun i _ => by simp

theorem rows2_step {w wr : World} {R k : Nat} (h : Rows2 w wr R k) : Rows2 w (wr.setCell ⟨w.heap.size + 1, k, none⟩ (.int .u8 83)) R (k + 1) := by
  refine ⟨h.zeros.setOther (by show w.heap.size ≠ w.heap.size + 1; omega) _, (h.marks.set k _).congr fun i _ => ?_, h.below.setCell (by show w.heap.size ≤ w.heap.size + 1; omega) _⟩
  by_cases e : i = k
  · subst e; simp
  · rw [if_neg e]
    by_cases hlt : i < k
    · rw [if_pos hlt, if_pos (by omega)]
    · rw [if_neg hlt, if_neg (by omega)]

theorem rows2_zero {w wr : World} {R : Nat} (h : Rows2 w wr R (2 * R)) (n : Nat) (hn : n < 2 * R) : 1 ≤ n → wr.cell? ⟨w.heap.size, n - 1, none⟩ = some (.int .u8 0) := fun _ => h.zeros.cell (by omega)
theorem rows2_mark {w wr : World} {R : Nat} (h : Rows2 w wr R (2 * R)) (n : Nat) (hn : n < 2 * R) : 1 ≤ n → wr.cell? ⟨w.heap.size + 1, n - 1, none⟩ = some (.int .u8 83) := fun _ => by
  rw [h.marks.cell (i := n - 1) (by omega), if_pos (by omega)]

set_option maxRecDepth 100000 in
set_option maxHeartbeats 1000000 in
theorem walk (a0 : Int) (w0 : (Lit.int .i64 a0).wf = true) (w : World) :
    Calls Try.prog 6 #[.int .i64 a0] w fun e w' => e = .returned (.bool true) ∧ Below w.heap.size w w' := by
  have hb : -9223372036854775808 ≤ a0 ∧ a0 ≤ 9223372036854775807 := bounds_i64 w0
  obtain ⟨hb0, hb1⟩ := hb
  by_cases h8 : a0 < 8
  · go_enter Try.func6, Try.ntmps6
    go_wp2
    go_ret
    exact ⟨rfl, Below.refl _ _⟩
  by_cases h16 : 65536 < a0
  · go_enter Try.func6, Try.ntmps6
    go_wp2
    go_ret
    exact ⟨rfl, Below.refl _ _⟩
  obtain ⟨R, rfl⟩ := Int.eq_ofNat_of_zero_le (show 0 ≤ a0 by omega)
  have hR : 8 ≤ R := by omega
  have hR2 : R ≤ 65536 := by omega
  clear hb0 hb1 w0 h8 h16
  have hmk := run_make_row' (P := Try.prog) 24 5 (.int .u8 0) 1 Try.underlying24 info5 rfl .i64 .i64 (2 * R) (by omega) (by omega)
  rw [show (((2 * R : Nat)) : Int) = 2 * (R : Int) by omega] at hmk
  go_enter Try.func6, Try.ntmps6
  go_wp2
  go_loopw [5] (fun i wr => ∃ k : Nat, k ≤ 2 * R ∧ i = .int .i64 k ∧ Rows2 w wr R k) (fun i _ => 2 * R - (intOf i).toNat)
  case atStart => exact ⟨0, Nat.zero_le _, rfl, rows2_start w R⟩
  case round =>
    obtain ⟨k, hk, rfl, hrow⟩ := hrel
    by_cases hlt : k < 2 * R
    · have hcell := hrow.marks.cell hlt
      have hfz := hrow.marks.frozen k
      have hnext := rows2_step hrow
      rw [if_neg (by omega)] at hcell
      go_wp2
      go_roundw
      case rel => exact ⟨k + 1, by omega, by go_num, hnext⟩
      case measure => simp [intOf]; omega
    · have hrow0 : Rows2 w wr R (2 * R) := (show k = 2 * R by omega) ▸ hrow
      clear hrow
      have hz0 := zc_zero R
      have hm0 := mc_zero R
      have HZ := hidOf hz0
      have HM := hidOf hm0
      clear hz0 hm0
      go_wp2
      go_loopw [6, 7, 8, 9] (fun z m ca i wr2 => ∃ n : Nat, n ≤ 2 * R ∧ i = .int .i64 n ∧ z = .int .i64 (zc n R) ∧ m = .int .i64 (mc n R) ∧ ca = .int .i64 0 ∧ Rows2 w wr2 R (2 * R)) (fun _ _ _ i _ => 2 * R - (intOf i).toNat)
      case atStart => exact ⟨0, Nat.zero_le _, rfl, congrArg (Value.int .i64) HZ.out.symm, congrArg (Value.int .i64) HM.out.symm, rfl, hrow0⟩
      case round =>
        clear hrow0
        obtain ⟨n, hn, rfl, rfl, rfl, rfl, hrow⟩ := hrel
        have hzb := zc_bd n R
        have hmb := mc_bd n R
        by_cases hln : n < 2 * R
        · have hcz := hidOf (rows2_zero hrow n hln)
          have hcm := hidOf (rows2_mark hrow n hln)
          by_cases hnR : n < R
          · have EZ := hidOf (zc_step n R hR hnR)
            have EM := hidOf (mc_step n R hR hnR)
            go_wp2_with fail
            refine (cut_any _ n _ R 0 (by omega) (by omega) (by omega) _ (by exact hcz.out)).mono ?_
            rintro e w' ⟨rfl, rfl⟩
            go_wp2_with fail
            refine (cut_any _ n _ R 83 (by omega) (by omega) (by omega) _ (by exact hcm.out)).mono ?_
            rintro e w' ⟨rfl, rfl⟩
            generalize cutV n R 0 = cz at EZ ⊢
            generalize cutV n R 83 = cm at EM ⊢
            cases cz <;> cases cm
            all_goals
              go_wp2
              go_roundw
              case rel => exact ⟨n + 1, by omega, by go_num, by rw [EZ.out]; first | rfl | simp, by rw [EM.out]; first | rfl | simp, rfl, hrow⟩
              case measure => simp [intOf]; omega
          · have EZ := hidOf (zc_above n R hR (by omega))
            have EM := hidOf (mc_above n R hR (by omega))
            have EZ1 := hidOf (zc_above (n + 1) R hR (by omega))
            have EM1 := hidOf (mc_above (n + 1) R hR (by omega))
            have C0 := hidOf (cutV_above n R 0 hR (by omega))
            have C1 := hidOf (cutV_above n R 83 hR (by omega))
            go_wp2_with fail
            refine (cut_any _ n _ R 0 (by omega) (by omega) (by omega) _ (by exact hcz.out)).mono ?_
            rintro e w' ⟨rfl, rfl⟩
            rw [C0.out]
            go_wp2_with fail
            refine (cut_any _ n _ R 83 (by omega) (by omega) (by omega) _ (by exact hcm.out)).mono ?_
            rintro e w' ⟨rfl, rfl⟩
            rw [C1.out]
            go_wp2
            go_roundw
            case rel => exact ⟨n + 1, by omega, by go_num, by rw [EZ1.out, EZ.out], by rw [EM1.out, EM.out], rfl, hrow⟩
            case measure => simp [intOf]; omega
        · have e1 : (zc n R == (R : Int) - 3) = true := by rw [zc_above n R hR (by omega)]; simp
          have e2 : (mc n R == (R : Int) - 4) = true := by rw [mc_above n R hR (by omega)]; simp
          go_wp2
          go_ret
          exact ⟨rfl, hrow.below⟩
end Go.Proofs.Qxb6600406a.Cutting
