/-
  Seat b6600406a: the contract of format.Cut (function 10), at a tail that is the first n bytes of a row.
-/
import Derived.Test.Qxb6600406aRows
import Derived.WalkKit
import Derived.Deep.OwnRows
namespace Go.Proofs.Qxb6600406a.Cutting
open Go.RowKit

/-- What Cut answers: n: the tail's length, r: the row's size, x: the tail's last byte. -/
def cutV (n : Nat) (r x : Int) : Bool :=
  if n = 0 ∨ n = 2 ∨ (n : Int) = r - 5 then false else if (n : Int) = r - 4 then (x != 83) else decide ((n : Int) < r)

theorem cutV_stop (n : Nat) (r x : Int) (h : n = 0 ∨ n = 2 ∨ (n : Int) = r - 5) : cutV n r x = false := by unfold cutV; rw [if_pos h]
theorem cutV_marked (n : Nat) (r x : Int) (h : ¬ (n = 0 ∨ n = 2 ∨ (n : Int) = r - 5)) (hm : (n : Int) = r - 4) : cutV n r x = (x != 83) := by unfold cutV; rw [if_neg h, if_pos hm]
theorem cutV_plain (n : Nat) (r x : Int) (h : ¬ (n = 0 ∨ n = 2 ∨ (n : Int) = r - 5)) (hm : ¬ (n : Int) = r - 4) : cutV n r x = decide ((n : Int) < r) := by unfold cutV; rw [if_neg h, if_neg hm]

theorem hidOf {p : Prop} (h : p) : Hid p := h
theorem ret_bool {a b : Bool} (h : a = b) : Ending.returned (.bool a) = .returned (.bool b) := by rw [h]

set_option maxRecDepth 100000 in
set_option maxHeartbeats 400000 in
theorem cut_any (b n c : Nat) (r x : Int) (hr : 8 ≤ r) (hr2 : r ≤ 65536) (hn : n ≤ 131072) (w : World) (hc : 1 ≤ n → w.cell? ⟨b, n - 1, none⟩ = some (.int .u8 x)) :
    Calls Try.prog 10 #[.slice (some ⟨b, 0, none⟩) n c, .int .i64 r] w fun e w' => e = .returned (.bool (cutV n r x)) ∧ w = w' := by
  by_cases h0 : n = 0
  · subst h0
    go_enter Try.func10, Try.ntmps10
    go_wp2
    go_ret
    exact ⟨ret_bool (cutV_stop _ _ _ (.inl rfl)).symm, rfl⟩
  by_cases h2 : n = 2
  · subst h2
    go_enter Try.func10, Try.ntmps10
    go_wp2
    go_ret
    exact ⟨ret_bool (cutV_stop _ _ _ (.inr (.inl rfl))).symm, rfl⟩
  by_cases h5 : (n : Int) = r - 5
  · have e := cutV_stop n r x (.inr (.inr h5))
    have E := hidOf e
    clear e
    have ha : (n : Int) ≤ r - 5 := by omega
    have hb : r - 5 ≤ (n : Int) := by omega
    clear h5
    go_enter Try.func10, Try.ntmps10
    go_wp2
    go_ret
    exact ⟨ret_bool E.out.symm, rfl⟩
  by_cases h4 : (n : Int) = r - 4
  · have e := cutV_marked n r x (by omega) h4
    have E := hidOf e
    clear e
    obtain ⟨m, rfl⟩ : ∃ m, n = m + 1 := ⟨n - 1, by omega⟩
    have hc1 : w.cell? ⟨b, m, none⟩ = some (.int .u8 x) := by simpa using hc (by omega)
    have ha : (m : Int) + 1 ≤ r - 4 := by omega
    have hb : r - 4 ≤ (m : Int) + 1 := by omega
    clear h4 hc
    go_enter Try.func10, Try.ntmps10
    go_wp2
    go_ret
    exact ⟨ret_bool E.out.symm, rfl⟩
  · have e := cutV_plain n r x (by omega) h4
    have E := hidOf e
    clear e hc
    go_enter Try.func10, Try.ntmps10
    go_wp2
    go_ret
    exact ⟨ret_bool E.out.symm, rfl⟩
end Go.Proofs.Qxb6600406a.Cutting
