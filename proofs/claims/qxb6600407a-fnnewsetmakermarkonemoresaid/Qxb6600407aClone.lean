/-
  Seat b6600407a: the contracts of zzBytes_.. (functions 6 and 9) and zzB1CloneBools (function 7).
-/
import Derived.Test.Qxb6600407aRows
import Derived.Test.Qxb6600407aPlain
import Derived.WalkKit
import Derived.WalkSpells
import Derived.WalkLawsBesides
import Derived.Deep.OwnRows
namespace Go.Proofs.Qxb6600407a
open Go.RowKit

theorem addr_add (b o i : Nat) : (⟨b, o, none⟩ : Addr).add i = ⟨b, o + i, none⟩ := by unfold Addr.add; split <;> simp_all
theorem hidOf {p : Prop} (h : p) : Hid p := h
theorem info4 : (Try.prog.info? 4).map (fun i => (i.zero, i.size, i.bytes)) = some (some (.bool false), 1, 1) := by kernel_rfl
theorem info3 : (Try.prog.info? 3).map (fun i => (i.zero, i.size, i.bytes)) = some (some (.int .i64 0), 1, 8) := by kernel_rfl
theorem info26 : (Try.prog.info? 26).map (fun i => (i.zero, i.size, i.bytes)) = some (some (.slice none 0 0), 1, 24) := by kernel_rfl

/-- A slice of n bools that came in: nil, or its cells lie at x. -/
def IsBools (w : World) (a : Option Addr) (n : Nat) (f : Nat → Bool) : Prop :=
  (a = none ∧ n = 0) ∨ ∃ x, a = some x ∧ ∀ i, i < n → w.cell? (x.add i) = some (.bool (f i))

/-- A slice of n bools at the head of block b (where n = 0 nothing is said of a). -/
structure Bz (w : World) (a : Option Addr) (b n : Nat) (f : Nat → Bool) : Prop where
  adr : 0 < n → a = some ⟨b, 0, none⟩
  cell : ∀ i, i < n → w.cell? ⟨b, i, none⟩ = some (.bool (f i))

set_option maxHeartbeats 400000 in
theorem bytes6_any (a : Option Addr) (n c : Nat) (hn : n ≤ 9223372036854775807) (w : World) :
    Calls Try.prog 6 #[.slice a n c] w fun e w' => e = .returned (.bool (decide (n ≤ 1048576))) ∧ w = w' := by
  by_cases h : n ≤ 1048576
  · rw [decide_eq_true h]
    go_enter Try.func6, Try.ntmps6
    go_wp2
    go_ret
    exact ⟨rfl, rfl⟩
  · rw [decide_eq_false h]
    go_enter Try.func6, Try.ntmps6
    go_wp2
    go_ret
    exact ⟨rfl, rfl⟩

set_option maxHeartbeats 400000 in
theorem bytes9_any (a : Option Addr) (n c : Nat) (j : Int) (hn : n ≤ 9223372036854775807) (w : World) :
    Calls Try.prog 9 #[.slice a n c, .int .i64 j] w fun e w' => e = .returned (.bool (decide (n ≤ 1048576))) ∧ w = w' := by
  by_cases h : n ≤ 1048576
  · rw [decide_eq_true h]
    go_enter Try.func9, Try.ntmps9
    go_wp2
    go_ret
    exact ⟨rfl, rfl⟩
  · rw [decide_eq_false h]
    go_enter Try.func9, Try.ntmps9
    go_wp2
    go_ret
    exact ⟨rfl, rfl⟩

/-- The copy in the making: k bools copied. -/
structure Cp (w wr : World) (n k : Nat) (f : Nat → Bool) : Prop where
  row : wr.rowIs w.heap.size 4 n (fun i => if i < k then .bool (f i) else .bool false)
  below : Below w.heap.size w wr

theorem cp_start (w : World) (n : Nat) (f : Nat → Bool) : Cp w (w.alloc (.cells (madeCells #[.bool false] n) 4)) n 0 f :=
  ⟨(World.rowIs_made w _ _ _).congr fun i _ => by simp, (Below.refl _ _).alloc (Nat.le_refl _) _⟩

theorem cp_step {w wr : World} {n k : Nat} {f : Nat → Bool} (h : Cp w wr n k f) : Cp w (wr.setCell ⟨w.heap.size, k, none⟩ (.bool (f k))) n (k + 1) f := by
  refine ⟨(h.row.set k _).congr fun i _ => ?_, h.below.setCell (Nat.le_refl _) _⟩
  by_cases e : i = k
  · subst e; simp
  · rw [if_neg e]
    by_cases hlt : i < k
    · rw [if_pos hlt, if_pos (by omega)]
    · rw [if_neg hlt, if_neg (by omega)]

theorem cp_cell {w wr : World} {n k : Nat} {f : Nat → Bool} (h : Cp w wr n k f) (hk : k < n) : wr.cell? ⟨w.heap.size, k, none⟩ = some (.bool false) := by
  rw [h.row.cell hk, if_neg (by omega)]

theorem cp_done {w wr : World} {n k : Nat} {f : Nat → Bool} (h : Cp w wr n k f) (hk : n ≤ k) : Bz wr (some ⟨w.heap.size, 0, none⟩) w.heap.size n f :=
  ⟨fun _ => rfl, fun i hi => by rw [h.row.cell hi, if_pos (by omega)]⟩

/-- What Clone leaves: a slice of its own, of the same bools. -/
def Cloned (w : World) (n : Nat) (f : Nat → Bool) (e : Ending) (w' : World) : Prop :=
  ∃ (a : Option Addr) (b : Nat), e = .returned (.slice a n n) ∧ Bz w' a b n f ∧ w.heap.size ≤ b ∧ Below w.heap.size w w'

set_option maxHeartbeats 400000 in
theorem clone_any (a : Option Addr) (n c : Nat) (f : Nat → Bool) (hn : n ≤ 1048576) (w : World) (ha : IsBools w a n f) (hc : a = none → c = 0) :
    Calls Try.prog 7 #[.slice a n c] w fun e w' => Cloned w n f e w' := by
  have hmk := run_make_row' (P := Try.prog) 22 4 (.bool false) 1 Try.underlying22 info4 rfl .i64 .i64 n (by omega) (by omega)
  rcases ha with ⟨rfl, rfl⟩ | ⟨x, rfl, hcell⟩
  · obtain rfl := hc rfl
    have heq := fun wx => Lib.run_eql_slice_nil (P := Try.prog) wx 22 4 none 0 0 0 0 Try.underlying22
    go_enter Try.func7, Try.ntmps7
    go_wp2
    go_ret
    exact ⟨none, w.heap.size, rfl, ⟨fun h => absurd h (by omega), fun i hi => absurd hi (by omega)⟩, Nat.le_refl _, Below.refl _ _⟩
  · have heq := fun wx => Lib.run_eql_slice_nil (P := Try.prog) wx 22 4 (some x) n c 0 0 Try.underlying22
    have hx : 0 < n → x.spot = none := fun h => World.cell?_spot (hcell 0 h)
    have hcell' : ∀ k, k < n → w.cell? ⟨x.block, x.off + k, none⟩ = some (.bool (f k)) := by
      intro k hk
      have h0 := hx (by omega)
      have := hcell k hk
      obtain ⟨xb, xo, xs⟩ := x
      simp only at h0
      subst h0
      show w.cell? ⟨xb, xo + k, none⟩ = _
      rw [← addr_add]
      exact this
    have HC := hidOf hcell'
    have HX := hidOf hx
    clear hcell hcell' hx
    go_enter Try.func7, Try.ntmps7
    go_wp2
    go_loopw [4] (fun i wr => ∃ k : Nat, k ≤ n ∧ i = .int .i64 k ∧ Cp w wr n k f) (fun i _ => n - (intOf i).toNat)
    case atStart => exact ⟨0, Nat.zero_le _, rfl, cp_start w n f⟩
    case round =>
      obtain ⟨k, hk, rfl, hrow⟩ := hrel
      by_cases hlt : k < n
      · have hc0 := HC.out k hlt
        have hb : x.block < w.heap.size := World.block_lt_of_cell? _ ⟨x.block, x.off + k, none⟩ hc0
        have hc1 := (hrow.below.cell (p := ⟨x.block, x.off + k, none⟩) hb).trans hc0
        have hc2 := cp_cell hrow hlt
        have hfz := hrow.row.frozen k
        have hnext := cp_step hrow
        clear hc0
        obtain ⟨xb, xo, xs⟩ := x
        obtain rfl : xs = none := HX.out (by omega)
        go_wp2
        go_roundw
        case rel => exact ⟨k + 1, by omega, by go_num, hnext⟩
        case measure => simp [intOf]; omega
      · go_wp2
        go_ret
        exact ⟨_, _, rfl, cp_done hrow (by omega), Nat.le_refl _, hrow.below⟩
end Go.Proofs.Qxb6600407a
