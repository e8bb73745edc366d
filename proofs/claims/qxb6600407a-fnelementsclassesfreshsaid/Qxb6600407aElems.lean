/-
  Seat b6600407a: (*Policy).elements (function 16) and ZZElements (14).
-/
import Derived.Test.Qxb6600407aStrs
import Derived.Deep.QuietTactic
import Derived.BigQuiet
namespace Go.Proofs.Qxb6600407a.Els
open Go.RowKit

theorem info45 : (Try.prog.info? 45).map (fun i => (i.zero, i.size, i.bytes)) = some (some (.agg #[.string ByteArray.empty, .slice none 0 0]), 2, 40) := by kernel_rfl

theorem run_make_els (n : Nat) (hn : n ≤ 1048576) (w : World) :
    (Instr.makeSlice 36 (.int .i64 (n : Int)) (.int .i64 (n : Int))).run Try.prog w = .ok (.slice (some ⟨w.heap.size, 0, none⟩) n n) (w.alloc (.cells (madeCells #[.string ByteArray.empty, .slice none 0 0] (n * 2)) 45)) := by
  obtain ⟨i, hi, hz, hs, hb⟩ := info_parts info45
  have h := run_make (P := Try.prog) w 36 45 i (.agg #[.string ByteArray.empty, .slice none 0 0]) Try.underlying36 hi hz .i64 .i64 n n (by omega) (Int.le_refl _) (by rw [hb]; omega) (by omega)
  simp only [Int.toNat_natCast, hs] at h
  exact h

/-- The cells of k elements that bear the names S, the rest zero. -/
def elk (S : Nat → ByteArray) (k t : Nat) : Value := if t % 2 = 0 then (if t / 2 < k then .string (S (t / 2)) else .string ByteArray.empty) else .slice none 0 0

theorem made_els (w : World) (n : Nat) (S : Nat → ByteArray) : (w.alloc (.cells (madeCells #[.string ByteArray.empty, .slice none 0 0] (n * 2)) 45)).rowIs w.heap.size 45 (n * 2) (elk S 0) := by
  refine ⟨_, Deep.blk_alloc_new _ _, size_madeCells _ _, fun i hi => ?_⟩
  have h2 : i % 2 = 0 ∨ i % 2 = 1 := by omega
  rcases h2 with h | h <;> simp [madeCells, hi, elk, h]

structure Elk (w wr : World) (n k : Nat) (S : Nat → ByteArray) : Prop where
  res : wr.heap[w.heap.size]? = some (.cells #[.slice none 0 0, .slice none 0 0, .slice none 0 0, .slice none 0 0, .slice none 0 0] 42 (0, 0))
  row : wr.rowIs (w.heap.size + 1) 45 (n * 2) (elk S k)
  below : Below w.heap.size w wr

theorem elk_start (w : World) (n : Nat) (S : Nat → ByteArray) : Elk w ((w.alloc (.cells #[.slice none 0 0, .slice none 0 0, .slice none 0 0, .slice none 0 0, .slice none 0 0] 42)).alloc (.cells (madeCells #[.string ByteArray.empty, .slice none 0 0] (n * 2)) 45)) n 0 S := by
  refine ⟨?_, ?_, ((Below.refl _ _).alloc (Nat.le_refl _) _).alloc (by simp) _⟩
  · rw [Below.heap_alloc _ _ _ (by simp)]
    exact Deep.blk_alloc_new _ _
  · have h := made_els (w.alloc (.cells #[.slice none 0 0, .slice none 0 0, .slice none 0 0, .slice none 0 0, .slice none 0 0] 42)) n S
    simp only [World.size_alloc] at h
    exact h
theorem elk_step {w wr : World} {n k : Nat} {S : Nat → ByteArray} (h : Elk w wr n k S) :
    Elk w ((wr.setCell ⟨w.heap.size + 1, k * 2, none⟩ (.string (S k))).setCell ⟨w.heap.size + 1, k * 2 + 1, none⟩ (.slice none 0 0)) n (k + 1) S := by
  refine ⟨?_, ((h.row.set (k * 2) _).set (k * 2 + 1) _).congr fun t _ => ?_, (h.below.setCell (p := ⟨w.heap.size + 1, k * 2, none⟩) (Nat.le_succ _) _).setCell (p := ⟨w.heap.size + 1, k * 2 + 1, none⟩) (Nat.le_succ _) _⟩
  · rw [Below.heap_setCell _ _ _ _ (by show w.heap.size ≠ w.heap.size + 1; omega), Below.heap_setCell _ _ _ _ (by show w.heap.size ≠ w.heap.size + 1; omega)]
    exact h.res
  · show (if t = k * 2 + 1 then _ else if t = k * 2 then _ else elk S k t) = _
    unfold elk
    by_cases e1 : t = k * 2 + 1
    · rw [if_pos e1, if_neg (by omega)]
    · rw [if_neg e1]
      by_cases e0 : t = k * 2
      · rw [if_pos e0, if_pos (by omega), if_pos (by omega), show t / 2 = k by omega]
      · rw [if_neg e0]
        by_cases h2 : t % 2 = 0
        · rw [if_pos h2, if_pos h2]
          by_cases hl : t / 2 < k
          · rw [if_pos hl, if_pos (by omega)]
          · rw [if_neg hl, if_neg (by omega)]
        · rw [if_neg h2, if_neg h2]
theorem elk_old {w wr : World} {n k : Nat} {S : Nat → ByteArray} (h : Elk w wr n k S) {p : Addr} {v : Value} (hp : w.cell? p = some v) : wr.cell? p = some v := (h.below.cell (World.block_lt_of_cell? _ p hp)).trans hp
theorem elk_res {w wr : World} {n k : Nat} {S : Nat → ByteArray} (h : Elk w wr n k S) (i : Nat) (hi : i < 5) : wr.cell? ⟨w.heap.size, i, none⟩ = some (.slice none 0 0) ∧ wr.frozen? ⟨w.heap.size, i, none⟩ = false := by
  rcases (show i = 0 ∨ i = 1 ∨ i = 2 ∨ i = 3 ∨ i = 4 by omega) with rfl | rfl | rfl | rfl | rfl <;> simp [World.cell?, World.frozen?, h.res]

/-- WHAT elements LEAVES: a row of elements of its own, of the names S; the other four kinds nil. -/
def Gives (w : World) (n : Nat) (S : Nat → ByteArray) (e : Ending) (w' : World) : Prop :=
  ∃ E, e = .returned (.agg #[.slice (some ⟨E, 0, none⟩) n n, .slice none 0 0, .slice none 0 0, .slice none 0 0, .slice none 0 0]) ∧ w'.rowIs E 45 (n * 2) (elk S n) ∧ w.heap.size ≤ E ∧ Below w.heap.size w w'

set_option maxRecDepth 100000 in
set_option maxHeartbeats 1000000 in
theorem elements_any (P b n : Nat) (a : Option Addr) (S : Nat → ByteArray) (hn : n ≤ 1048576) (w : World) (h0 : w.cell? ⟨P, 0, none⟩ = some (.slice a n n)) (h1 : w.cell? ⟨P, 1, none⟩ = some (.slice none 0 0)) (h2 : w.cell? ⟨P, 2, none⟩ = some (.slice none 0 0))
    (h3 : w.cell? ⟨P, 3, none⟩ = some (.slice none 0 0)) (h4 : w.cell? ⟨P, 4, none⟩ = some (.slice none 0 0)) (ha : Sz w a b n S) :
    Calls Try.prog 16 #[.pointer (some ⟨P, 0, none⟩)] w fun e w' => Gives w n S e w' := by
  have HA := hidOf ha
  have hmk := run_make_els n hn
  have hP : P < w.heap.size := World.block_lt_of_cell? _ ⟨P, 0, none⟩ h0
  clear ha
  go_enter Try.func16, Try.ntmps16
  go_wp2
  go_loopw [17] (fun i wr => ∃ k : Nat, k ≤ n ∧ i = .int .i64 k ∧ Elk w wr n k S) (fun i _ => n - (intOf i).toNat)
  case atStart => exact ⟨0, Nat.zero_le _, rfl, elk_start w n S⟩
  case round =>
    obtain ⟨k, hk, rfl, hE⟩ := hrel
    by_cases hlt : k < n
    · have had := HA.out.adr (by omega)
      subst had
      have hc0 := HA.out.cell k hlt
      have hc1 := (hE.below.cell (p := ⟨b, k, none⟩) (World.block_lt_of_cell? _ ⟨b, k, none⟩ hc0)).trans hc0
      have e0 := hE.row.cell (i := k * 2) (by omega)
      have e1 := hE.row.cell (i := k * 2 + 1) (by omega)
      have f0 := hE.row.frozen (k * 2)
      have f1 := hE.row.frozen (k * 2 + 1)
      have hnext := hidOf (elk_step hE)
      clear hc0
      go_wp2
      go_roundw
      case rel => exact ⟨k + 1, by omega, by go_num, hnext.out⟩
      case measure => simp [intOf]; omega
    · obtain rfl : k = n := by omega
      have c1 := elk_old hE h1
      have c2 := elk_old hE h2
      have c3 := elk_old hE h3
      have c4 := elk_old hE h4
      obtain ⟨r0, f0⟩ := elk_res hE 0 (by omega)
      obtain ⟨r1, f1⟩ := elk_res hE 1 (by omega)
      obtain ⟨r2, f2⟩ := elk_res hE 2 (by omega)
      obtain ⟨r3, f3⟩ := elk_res hE 3 (by omega)
      obtain ⟨r4, f4⟩ := elk_res hE 4 (by omega)
      have HE := hidOf hE
      clear hE h0 h1 h2 h3 h4
      go_wp2
      go_region
      go_wp2
      refine bodyPost_ret (v := .agg #[.slice (some ⟨w.heap.size + 1, 0, none⟩) k k, .slice none 0 0, .slice none 0 0, .slice none 0 0, .slice none 0 0]) (by simp [results, Try.results16, go_sem, r0, r1, r2, r3, r4]) rfl ?_
      exact ⟨_, rfl, (((((HE.out.row.setOther (a := ⟨w.heap.size, 0, none⟩) (by show w.heap.size + 1 ≠ w.heap.size; omega) _).setOther (a := ⟨w.heap.size, 1, none⟩) (by show w.heap.size + 1 ≠ w.heap.size; omega) _).setOther (a := ⟨w.heap.size, 2, none⟩) (by show w.heap.size + 1 ≠ w.heap.size; omega) _).setOther (a := ⟨w.heap.size, 3, none⟩) (by show w.heap.size + 1 ≠ w.heap.size; omega) _).setOther (a := ⟨w.heap.size, 4, none⟩) (by show w.heap.size + 1 ≠ w.heap.size; omega) _).drew, Nat.le_succ _,
        (((((HE.out.below.setCell (p := ⟨w.heap.size, 0, none⟩) (Nat.le_refl _) _).setCell (p := ⟨w.heap.size, 1, none⟩) (Nat.le_refl _) _).setCell (p := ⟨w.heap.size, 2, none⟩) (Nat.le_refl _) _).setCell (p := ⟨w.heap.size, 3, none⟩) (Nat.le_refl _) _).setCell (p := ⟨w.heap.size, 4, none⟩) (Nat.le_refl _) _).drew⟩
/-- The policy at block P: its classes the slice a, the other kinds nil. -/
structure Pol (w : World) (P b n : Nat) (a : Option Addr) (S : Nat → ByteArray) : Prop where
  c0 : w.cell? ⟨P, 0, none⟩ = some (.slice a n n)
  c1 : w.cell? ⟨P, 1, none⟩ = some (.slice none 0 0)
  c2 : w.cell? ⟨P, 2, none⟩ = some (.slice none 0 0)
  c3 : w.cell? ⟨P, 3, none⟩ = some (.slice none 0 0)
  c4 : w.cell? ⟨P, 4, none⟩ = some (.slice none 0 0)
  sz : Sz w a b n S
theorem pol_below {w w' : World} {P b n : Nat} {a : Option Addr} {S : Nat → ByteArray} (h : Pol w P b n a S) (hb : Below w.heap.size w w') : Pol w' P b n a S := by
  have go : ∀ (p : Addr) (v : Value), w.cell? p = some v → w'.cell? p = some v := fun p v hp => (hb.cell (World.block_lt_of_cell? _ p hp)).trans hp
  exact ⟨go _ _ h.c0, go _ _ h.c1, go _ _ h.c2, go _ _ h.c3, go _ _ h.c4, sz_below h.sz hb⟩

set_option maxRecDepth 100000 in
set_option maxHeartbeats 1000000 in
theorem zzElements_any (P b n : Nat) (a : Option Addr) (S : Nat → ByteArray) (hn : n ≤ 1048576) (w : World) (h : Pol w P b n a S) :
    Calls Try.prog 14 #[.pointer (some ⟨P, 0, none⟩)] w fun e w' => Gives w n S e w' := by
  have H := hidOf h
  clear h
  go_enter Try.func14, Try.ntmps14
  go_wp2_with fail
  have hb0 : ∀ o, Below w.heap.size w (w.alloc o) := fun o => (Below.refl _ _).alloc (Nat.le_refl _) _
  have HB := hidOf hb0
  clear hb0
  have hp := fun o => pol_below H.out (HB.out o)
  refine (elements_any P b n a S hn _ (hp _).c0 (hp _).c1 (hp _).c2 (hp _).c3 (hp _).c4 (hp _).sz).mono ?_
  rintro e w1 ⟨E, rfl, hrow, hE, hbel⟩
  have hsz : w.heap.size + 1 ≤ E := by simpa using hE
  have hbel' : Below (w.heap.size + 1) (w.alloc (.cells #[.slice none 0 0, .slice none 0 0, .slice none 0 0, .slice none 0 0, .slice none 0 0] 42)) w1 := by simpa using hbel
  have res : w1.heap[w.heap.size]? = some (.cells #[.slice none 0 0, .slice none 0 0, .slice none 0 0, .slice none 0 0, .slice none 0 0] 42 (0, 0)) := (hbel'.block w.heap.size (by omega)).trans (Deep.blk_alloc_new _ _)
  have q : ∀ i, i < 5 → w1.cell? ⟨w.heap.size, i, none⟩ = some (.slice none 0 0) ∧ w1.frozen? ⟨w.heap.size, i, none⟩ = false := by
    intro i hi
    rcases (show i = 0 ∨ i = 1 ∨ i = 2 ∨ i = 3 ∨ i = 4 by omega) with rfl | rfl | rfl | rfl | rfl <;> simp [World.cell?, World.frozen?, res]
  obtain ⟨r0, f0⟩ := q 0 (by omega)
  obtain ⟨r1, f1⟩ := q 1 (by omega)
  obtain ⟨r2, f2⟩ := q 2 (by omega)
  obtain ⟨r3, f3⟩ := q 3 (by omega)
  obtain ⟨r4, f4⟩ := q 4 (by omega)
  have HR := hidOf hrow
  have HL : Hid (Below w.heap.size w w1) := (HB.out _).trans (hbel'.mono (Nat.le_succ _))
  clear q res hbel hbel' hrow hE hp
  go_wp2
  refine bodyPost_ret (v := .agg #[.slice (some ⟨E, 0, none⟩) n n, .slice none 0 0, .slice none 0 0, .slice none 0 0, .slice none 0 0]) (by simp [results, Try.results14, go_sem, r0, r1, r2, r3, r4]) rfl ?_
  have hne : E ≠ w.heap.size := by omega
  exact ⟨E, rfl, ((((HR.out.setOther (a := ⟨w.heap.size, 0, none⟩) hne _).setOther (a := ⟨w.heap.size, 1, none⟩) hne _).setOther (a := ⟨w.heap.size, 2, none⟩) hne _).setOther (a := ⟨w.heap.size, 3, none⟩) hne _).setOther (a := ⟨w.heap.size, 4, none⟩) hne _, by omega,
    ((((HL.out.setCell (p := ⟨w.heap.size, 0, none⟩) (Nat.le_refl _) _).setCell (p := ⟨w.heap.size, 1, none⟩) (Nat.le_refl _) _).setCell (p := ⟨w.heap.size, 2, none⟩) (Nat.le_refl _) _).setCell (p := ⟨w.heap.size, 3, none⟩) (Nat.le_refl _) _).setCell (p := ⟨w.heap.size, 4, none⟩) (Nat.le_refl _) _⟩
end Go.Proofs.Qxb6600407a.Els
