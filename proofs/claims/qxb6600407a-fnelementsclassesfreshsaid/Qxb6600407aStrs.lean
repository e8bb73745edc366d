/-
  Seat b6600407a: zzBytes_FnElementsClassesFresh (function 11), zzB1StringsBytes (12), zzB1CloneStrings (13).
-/
import Derived.Test.Qxb6600407aRows
import Derived.WalkKit
import Derived.WalkSpells
import Derived.WalkLawsBesides
import Derived.Deep.OwnRows
namespace Go.Proofs.Qxb6600407a.Els
open Go.RowKit

theorem addr_add (b o i : Nat) : (⟨b, o, none⟩ : Addr).add i = ⟨b, o + i, none⟩ := by unfold Addr.add; split <;> simp_all
theorem hidOf {p : Prop} (h : p) : Hid p := h
theorem info9 : (Try.prog.info? 9).map (fun i => (i.zero, i.size, i.bytes)) = some (some (.string ByteArray.empty), 1, 16) := by kernel_rfl

/-- A slice of n strings that came in: nil, or its cells lie at x. -/
def IsStrs (w : World) (a : Option Addr) (n : Nat) (S : Nat → ByteArray) : Prop :=
  (a = none ∧ n = 0) ∨ ∃ x, a = some x ∧ ∀ i, i < n → w.cell? (x.add i) = some (.string (S i))

/-- Where there is an element the slice begins at a plain address. -/
def At (w : World) (a : Option Addr) (n : Nat) (S : Nat → ByteArray) : Prop :=
  0 < n → ∃ b o, a = some ⟨b, o, none⟩ ∧ ∀ i, i < n → w.cell? ⟨b, o + i, none⟩ = some (.string (S i))

theorem at_of {w : World} {a : Option Addr} {n : Nat} {S : Nat → ByteArray} (h : IsStrs w a n S) : At w a n S := by
  intro hn
  rcases h with ⟨_, h0⟩ | ⟨⟨b, o, s⟩, rfl, hc⟩
  · omega
  · have hs : s = none := by
      have := World.cell?_spot (hc 0 hn)
      simpa [Addr.add] using this
    subst hs
    exact ⟨b, o, rfl, fun i hi => by rw [← addr_add]; exact hc i hi⟩

def SaysB (n : Nat) (w : World) (e : Ending) (w' : World) : Prop := ∃ r : Bool, e = .returned (.bool r) ∧ (r = true → n ≤ 1048576) ∧ w = w'
def SaysI (w : World) (e : Ending) (w' : World) : Prop := ∃ x : Int, e = .returned (.int .i64 x) ∧ w = w'

set_option maxRecDepth 100000 in
set_option maxHeartbeats 1000000 in
/-- It answers a bool; where it answers yes there are at most 1 << 20 strings. -/
theorem bytes_any (a : Option Addr) (n c : Nat) (S : Nat → ByteArray) (s : ByteArray) (hn : n ≤ 9223372036854775807) (w : World) (ha : At w a n S) :
    Calls Try.prog 11 #[.slice a n c, .string s] w fun e w' => SaysB n w e w' := by
  have HA := hidOf ha
  clear ha
  by_cases h20 : n ≤ 1048576
  case neg =>
    go_enter Try.func11, Try.ntmps11
    go_wp2
    go_ret
    exact ⟨false, rfl, (fun h => by cases h), rfl⟩
  have H20 : Hid (n ≤ 1048576) := h20
  go_enter Try.func11, Try.ntmps11
  go_wp2
  go_loop [5, 6] (fun z i => ∃ (k : Nat) (x : Int), k ≤ n ∧ i = .int .i64 k ∧ z = .int .i64 x) (fun _ i => n - (intOf i).toNat)
  case atStart => exact ⟨0, _, Nat.zero_le _, rfl, rfl⟩
  case round =>
    obtain ⟨k, x, hk, rfl, rfl⟩ := hrel
    by_cases hlt : k < n
    · obtain ⟨b, o, rfl, hc⟩ := HA.out (by omega)
      have hck := hc k hlt
      clear hc
      go_wp2
      all_goals first
        | (go_ret; exact ⟨false, rfl, (fun h => by cases h), rfl⟩)
        | (go_round
           case rel => exact ⟨k + 1, _, by omega, by go_num, rfl⟩
           case measure => simp [intOf]; omega)
    · go_wp2
      all_goals
        go_ret
        exact ⟨_, rfl, fun _ => H20.out, rfl⟩

set_option maxRecDepth 100000 in
set_option maxHeartbeats 1000000 in
/-- It answers a number. -/
theorem sum_any (a : Option Addr) (n c : Nat) (S : Nat → ByteArray) (hn : n ≤ 1048576) (w : World) (ha : At w a n S) :
    Calls Try.prog 12 #[.slice a n c] w fun e w' => SaysI w e w' := by
  have HA := hidOf ha
  clear ha
  by_cases h16 : 1048576 < 16 * (n : Int)
  · go_enter Try.func12, Try.ntmps12
    go_wp2
    go_ret
    exact ⟨_, rfl, rfl⟩
  go_enter Try.func12, Try.ntmps12
  go_wp2
  go_loop [3, 4] (fun z i => ∃ (k : Nat) (x : Int), k ≤ n ∧ i = .int .i64 k ∧ z = .int .i64 x) (fun _ i => n - (intOf i).toNat)
  case atStart => exact ⟨0, _, Nat.zero_le _, rfl, rfl⟩
  case round =>
    obtain ⟨k, x, hk, rfl, rfl⟩ := hrel
    by_cases hlt : k < n
    · obtain ⟨b, o, rfl, hc⟩ := HA.out (by omega)
      have hck := hc k hlt
      clear hc
      go_wp2
      all_goals first
        | (go_ret; exact ⟨_, rfl, rfl⟩)
        | (go_round
           case rel => exact ⟨k + 1, _, by omega, by go_num, rfl⟩
           case measure => simp [intOf]; omega)
    · go_wp2
      go_ret
      exact ⟨_, rfl, rfl⟩
/-! ### The copy -/
/-- A slice of n strings at the head of block b (where n = 0 nothing is said of a). -/
structure Sz (w : World) (a : Option Addr) (b n : Nat) (S : Nat → ByteArray) : Prop where
  adr : 0 < n → a = some ⟨b, 0, none⟩
  cell : ∀ i, i < n → w.cell? ⟨b, i, none⟩ = some (.string (S i))
theorem sz_below {w w' : World} {a : Option Addr} {b n : Nat} {S : Nat → ByteArray} (h : Sz w a b n S) (hb : Below w.heap.size w w') : Sz w' a b n S :=
  ⟨h.adr, fun i hi => (hb.cell (World.block_lt_of_cell? _ ⟨b, i, none⟩ (h.cell i hi))).trans (h.cell i hi)⟩
theorem sz_is {w : World} {a : Option Addr} {b n : Nat} {S : Nat → ByteArray} (h : Sz w a b n S) : At w a n S := fun hn => ⟨b, 0, h.adr hn, fun i hi => by rw [Nat.zero_add]; exact h.cell i hi⟩

structure Cp (w wr : World) (n k : Nat) (S : Nat → ByteArray) : Prop where
  row : wr.rowIs w.heap.size 9 n (fun i => if i < k then .string (S i) else .string ByteArray.empty)
  below : Below w.heap.size w wr
theorem cp_start (w : World) (n : Nat) (S : Nat → ByteArray) : Cp w (w.alloc (.cells (madeCells #[.string ByteArray.empty] n) 9)) n 0 S :=
  ⟨(World.rowIs_made w _ _ _).congr fun i _ => by simp, (Below.refl _ _).alloc (Nat.le_refl _) _⟩
theorem cp_step {w wr : World} {n k : Nat} {S : Nat → ByteArray} (h : Cp w wr n k S) : Cp w (wr.setCell ⟨w.heap.size, k, none⟩ (.string (S k))) n (k + 1) S := by
  refine ⟨(h.row.set k _).congr fun i _ => ?_, h.below.setCell (Nat.le_refl _) _⟩
  by_cases e : i = k
  · subst e; simp
  · rw [if_neg e]
    by_cases hlt : i < k
    · rw [if_pos hlt, if_pos (by omega)]
    · rw [if_neg hlt, if_neg (by omega)]
theorem cp_cell {w wr : World} {n k : Nat} {S : Nat → ByteArray} (h : Cp w wr n k S) (hk : k < n) : wr.cell? ⟨w.heap.size, k, none⟩ = some (.string ByteArray.empty) := by
  rw [h.row.cell hk, if_neg (by omega)]
theorem cp_done {w wr : World} {n k : Nat} {S : Nat → ByteArray} (h : Cp w wr n k S) (hk : n ≤ k) : Sz wr (some ⟨w.heap.size, 0, none⟩) w.heap.size n S :=
  ⟨fun _ => rfl, fun i hi => by rw [h.row.cell hi, if_pos (by omega)]⟩
def Cloned (w : World) (n : Nat) (S : Nat → ByteArray) (e : Ending) (w' : World) : Prop :=
  ∃ (a : Option Addr) (b : Nat), e = .returned (.slice a n n) ∧ Sz w' a b n S ∧ w.heap.size ≤ b ∧ (a = none → n = 0) ∧ Below w.heap.size w w'

set_option maxHeartbeats 400000 in
theorem clone_any (a : Option Addr) (n c : Nat) (S : Nat → ByteArray) (hn : n ≤ 1048576) (w : World) (ha : At w a n S) (hc : a = none → c = 0 ∧ n = 0) :
    Calls Try.prog 13 #[.slice a n c] w fun e w' => Cloned w n S e w' := by
  have hmk := run_make_row' (P := Try.prog) 31 9 (.string ByteArray.empty) 16 Try.underlying31 info9 rfl .i64 .i64 n (by omega) (by omega)
  have heq := fun wx => Lib.run_eql_slice_nil (P := Try.prog) wx 31 9 a n c 0 0 Try.underlying31
  have HA := hidOf ha
  clear ha
  cases a with
  | none =>
    obtain ⟨rfl, rfl⟩ := hc rfl
    go_enter Try.func13, Try.ntmps13
    go_wp2
    go_ret
    exact ⟨none, w.heap.size, rfl, ⟨fun h => absurd h (by omega), fun i hi => absurd hi (by omega)⟩, Nat.le_refl _, fun _ => rfl, Below.refl _ _⟩
  | some x =>
    clear hc
    go_enter Try.func13, Try.ntmps13
    go_wp2
    go_loopw [4] (fun i wr => ∃ k : Nat, k ≤ n ∧ i = .int .i64 k ∧ Cp w wr n k S) (fun i _ => n - (intOf i).toNat)
    case atStart => exact ⟨0, Nat.zero_le _, rfl, cp_start w n S⟩
    case round =>
      obtain ⟨k, hk, rfl, hrow⟩ := hrel
      by_cases hlt : k < n
      · obtain ⟨b, o, hx, hc⟩ := HA.out (by omega)
        obtain rfl := Option.some.inj hx
        have hc0 := hc k hlt
        have hc1 := (hrow.below.cell (p := ⟨b, o + k, none⟩) (World.block_lt_of_cell? _ ⟨b, o + k, none⟩ hc0)).trans hc0
        have hc2 := cp_cell hrow hlt
        have hfz := hrow.row.frozen k
        have hnext := cp_step hrow
        clear hc0 hc hx
        go_wp2
        go_roundw
        case rel => exact ⟨k + 1, by omega, by go_num, hnext⟩
        case measure => simp [intOf]; omega
      · go_wp2
        go_ret
        exact ⟨_, _, rfl, cp_done hrow (by omega), Nat.le_refl _, (fun h => by cases h), hrow.below⟩
end Go.Proofs.Qxb6600407a.Els
