/-
  Seat b6600407a: the invariant of newSetMaker's literal (five new blocks, laid in whatever order, and the struct's own).
-/
import Derived.Test.Qxb6600407aRegion
import Derived.Test.Qxb6600407aClone
namespace Go.Proofs.Qxb6600407a.Five
open Go.RowKit RegInv

/-- The struct's eight cells, s3 .. the blocks. -/
def cells (m k : Nat) (σ : Nat → Nat) : Array Value :=
  #[.slice (some ⟨σ 3, 0, none⟩) (1 + m) (1 + m), .slice (some ⟨σ 6, 0, none⟩) k k, .slice (some ⟨σ 10, 0, none⟩) k k, .map (some (σ 11)), .slice none 0 0, .slice (some ⟨σ 15, 0, none⟩) (1 + m) (1 + m), .slice none 0 0, .int .i64 0]

def obj (m k : Nat) (σ : Nat → Nat) : Nat → Obj
  | 3 => .cells (madeCells #[.slice none 0 0] (1 + m)) 26
  | 6 => .cells (madeCells #[.int .i64 0] k) 3
  | 10 => .cells (madeCells #[.int .i64 0] k) 3
  | 15 => .cells (madeCells #[.int .i64 0] (1 + m)) 3
  | 17 => .cells (cells m k σ) 52
  | _ => .map #[] 0

def val (m k : Nat) (vI vA : Value) (σ : Nat → Nat) : Nat → Value
  | 0 => vI
  | 1 => .int .i64 m
  | 2 => .int .i64 (1 + (m : Int))
  | 3 => .slice (some ⟨σ 3, 0, none⟩) (1 + m) (1 + m)
  | 4 => vA
  | 5 => .int .i64 k
  | 6 => .slice (some ⟨σ 6, 0, none⟩) k k
  | 7 => .agg #[.slice (some ⟨σ 3, 0, none⟩) (1 + m) (1 + m), .slice (some ⟨σ 6, 0, none⟩) k k]
  | 8 => vA
  | 9 => .int .i64 k
  | 10 => .slice (some ⟨σ 10, 0, none⟩) k k
  | 11 => .map (some (σ 11))
  | 12 => vI
  | 13 => .int .i64 m
  | 14 => .int .i64 (1 + (m : Int))
  | 15 => .slice (some ⟨σ 15, 0, none⟩) (1 + m) (1 + m)
  | 16 => .agg (cells m k σ)
  | 17 => .pointer (some ⟨σ 17, 0, none⟩)
  | _ => .pointer (some ⟨σ 17, 0, none⟩)

/-- Which blocks a value or an object speaks of. -/
def D : Nat → List Nat
  | 3 => [3]
  | 6 => [6]
  | 7 => [3, 6]
  | 10 => [10]
  | 11 => [11]
  | 15 => [15]
  | 16 => [3, 6, 10, 11, 15]
  | 17 => [3, 6, 10, 11, 15, 17]
  | 18 => [17]
  | _ => []
def isA (j : Nat) : Prop := j = 3 ∨ j = 6 ∨ j = 10 ∨ j = 11 ∨ j = 15 ∨ j = 17

def upd (σ : Nat → Nat) (j x : Nat) : Nat → Nat := fun i => if i = j then x else σ i

theorem val_congr (m k : Nat) (vI vA : Value) {σ τ : Nat → Nat} : ∀ (j : Nat), j < 19 → (∀ x ∈ D j, τ x = σ x) → val m k vI vA τ j = val m k vI vA σ j := by
  intro j hj h
  rcases (show j = 0 ∨ j = 1 ∨ j = 2 ∨ j = 3 ∨ j = 4 ∨ j = 5 ∨ j = 6 ∨ j = 7 ∨ j = 8 ∨ j = 9 ∨ j = 10 ∨ j = 11 ∨ j = 12 ∨ j = 13 ∨ j = 14 ∨ j = 15 ∨ j = 16 ∨ j = 17 ∨ j = 18 by omega) with
    rfl | rfl | rfl | rfl | rfl | rfl | rfl | rfl | rfl | rfl | rfl | rfl | rfl | rfl | rfl | rfl | rfl | rfl | rfl
  all_goals (simp [D] at h; simp [val, cells, h])
theorem obj_congr (m k : Nat) {σ τ : Nat → Nat} (j : Nat) (hj : isA j) (h : ∀ x ∈ D j, τ x = σ x) : obj m k τ j = obj m k σ j := by
  rcases hj with rfl | rfl | rfl | rfl | rfl | rfl
  all_goals (simp [D] at h; simp [obj, cells, h])

/-- THE INVARIANT. -/
structure At (m k : Nat) (vI vA : Value) (w0 : World) (σ : Nat → Nat) (L : Nat → Bool) (u : Nat → Value) (w : World) : Prop where
  slot : ∀ j, j < 19 → L j = true → u j = val m k vI vA σ j
  blk : ∀ j, isA j → L j = true → w0.heap.size ≤ σ j ∧ w.heap[σ j]? = some (obj m k σ j)
  ne : ∀ i j, isA i → isA j → L i = true → L j = true → i ≠ j → σ i ≠ σ j
  dep : ∀ j, L j = true → ∀ x ∈ D j, L x = true
  below : Below w0.heap.size w0 w

theorem start (m k : Nat) (vI vA : Value) (w0 : World) (u : Nat → Value) : ∃ σ, At m k vI vA w0 σ (fun _ => false) u w0.drew :=
  ⟨fun _ => 0, ⟨fun _ _ h => (by cases h), fun _ _ h => (by cases h), fun _ _ _ _ h => (by cases h), fun _ h => (by cases h), (Below.refl _ _).drew⟩⟩

/-- An operation that only reckons. -/
theorem pure' {m k : Nat} {vI vA : Value} {w0 : World} {σ : Nat → Nat} {L : Nat → Bool} {u : Nat → Value} {w : World} (h : At m k vI vA w0 σ L u w) (i : Nat) (hi : ¬ isA i) (hd : ∀ x ∈ D i, L x = true) :
    ∃ τ, At m k vI vA w0 τ (updL L i) (updV u i (val m k vI vA σ i)) w := by
  have keep : ∀ j, updL L i j = true → j ≠ i → L j = true := fun j hj hne => by simpa [updL, hne] using hj
  refine ⟨σ, ⟨fun j hj hL => ?_, fun j hj hL => ?_, fun j j' hj hj' hL hL' hne => ?_, fun j hL x hx => ?_, h.below⟩⟩
  · by_cases e : j = i
    · subst e; rw [updV_self]
    · rw [show updV u i (val m k vI vA σ i) j = u j by simp [updV, e]]; exact h.slot j hj (keep j hL e)
  · exact h.blk j hj (keep j hL (fun e => hi (e ▸ hj)))
  · exact h.ne j j' hj hj' (keep j hL (fun e => hi (e ▸ hj))) (keep j' hL' (fun e => hi (e ▸ hj'))) hne
  · have hx' : L x = true := by
      by_cases e : j = i
      · subst e; exact hd x hx
      · exact h.dep j (keep j hL e) x hx
    simp only [updL]; split
    · rfl
    · exact hx'

/-- An operation that lays a block. -/
theorem lay {m k : Nat} {vI vA : Value} {w0 : World} {σ : Nat → Nat} {L : Nat → Bool} {u : Nat → Value} {w : World} (h : At m k vI vA w0 σ L u w) (i : Nat) (hi : isA i) (hL : L i = false) (hd : ∀ x ∈ D i, x = i ∨ L x = true) :
    ∃ τ, At m k vI vA w0 τ (updL L i) (updV u i (val m k vI vA (upd σ i w.heap.size) i)) (w.alloc (obj m k σ i)) := by
  have keep : ∀ j, updL L i j = true → j ≠ i → L j = true := fun j hj hne => by simpa [updL, hne] using hj
  have off : ∀ j, L j = true → ∀ x ∈ D j, upd σ i w.heap.size x = σ x := fun j hj x hx => by
    have hx' := h.dep j hj x hx
    have hne : x ≠ i := fun e => by rw [e, hL] at hx'; cases hx'
    simp [upd, hne]
  have same : ∀ j, j ≠ i → upd σ i w.heap.size j = σ j := fun j e => by simp [upd, e]
  have lt : ∀ j, isA j → L j = true → σ j < w.heap.size := fun j hj hLj => (Array.getElem?_eq_some_iff.1 (h.blk j hj hLj).2).1
  have hi19 : i < 19 := by rcases hi with rfl | rfl | rfl | rfl | rfl | rfl <;> omega
  refine ⟨upd σ i w.heap.size, ⟨fun j hj hLj => ?_, fun j hj hLj => ?_, fun j j' hj hj' hLj hLj' hne => ?_, fun j hLj x hx => ?_, h.below.alloc h.below.size _⟩⟩
  · by_cases e : j = i
    · subst e; rw [updV_self]
    · rw [show updV u i (val m k vI vA (upd σ i w.heap.size) i) j = u j by simp [updV, e], val_congr m k vI vA j hj (off j (keep j hLj e))]
      exact h.slot j hj (keep j hLj e)
  · by_cases e : j = i
    · subst e
      rw [show upd σ j w.heap.size j = w.heap.size by simp [upd]]
      refine ⟨h.below.size, ?_⟩
      have eo : obj m k (upd σ j w.heap.size) j = obj m k σ j := by
        rcases hi with rfl | rfl | rfl | rfl | rfl | rfl <;> simp [obj, cells, upd]
      rw [eo]
      show (w.heap.push _)[w.heap.size]? = _
      simp
    · obtain ⟨h1, h2⟩ := h.blk j hj (keep j hLj e)
      rw [same j e, obj_congr m k j hj (off j (keep j hLj e))]
      exact ⟨h1, by rw [Below.heap_alloc _ _ _ (lt j hj (keep j hLj e))]; exact h2⟩
  · by_cases e : j = i
    · subst e
      have e' : j' ≠ j := fun e'' => hne e''.symm
      rw [same j' e', show upd σ j w.heap.size j = w.heap.size by simp [upd]]
      have := lt j' hj' (keep j' hLj' e')
      omega
    · by_cases e' : j' = i
      · subst e'
        rw [same j e, show upd σ j' w.heap.size j' = w.heap.size by simp [upd]]
        have := lt j hj (keep j hLj e)
        omega
      · rw [same j e, same j' e']
        exact h.ne j j' hj hj' (keep j hLj e) (keep j' hLj' e') hne
  · simp only [updL]
    split
    · rfl
    · rename_i hxi
      by_cases e : j = i
      · subst e
        rcases hd x hx with h' | h'
        · exact absurd h' hxi
        · exact h'
      · exact h.dep j (keep j hLj e) x hx

/-- WHAT IS LEFT: the struct at block S, the five blocks of its own, all apart. -/
structure Made (w0 : World) (m k s1 s2 s3 bm s5 S : Nat) (w : World) : Prop where
  r1 : w.rowIs s1 26 (1 + m) (fun _ => .slice none 0 0)
  r2 : w.rowIs s2 3 k (fun _ => .int .i64 0)
  r3 : w.rowIs s3 3 k (fun _ => .int .i64 0)
  mp : w.heap[bm]? = some (.map #[] 0)
  r5 : w.rowIs s5 3 (1 + m) (fun _ => .int .i64 0)
  st : w.heap[S]? = some (.cells #[.slice (some ⟨s1, 0, none⟩) (1 + m) (1 + m), .slice (some ⟨s2, 0, none⟩) k k, .slice (some ⟨s3, 0, none⟩) k k, .map (some bm), .slice none 0 0, .slice (some ⟨s5, 0, none⟩) (1 + m) (1 + m), .slice none 0 0, .int .i64 0] 52 (0, 0))
  low : w0.heap.size ≤ s1 ∧ w0.heap.size ≤ s2 ∧ w0.heap.size ≤ s3 ∧ w0.heap.size ≤ bm ∧ w0.heap.size ≤ s5 ∧ w0.heap.size ≤ S
  apart : s1 ≠ s2 ∧ s1 ≠ s3 ∧ s1 ≠ bm ∧ s1 ≠ s5 ∧ s1 ≠ S ∧ s2 ≠ s3 ∧ s2 ≠ bm ∧ s2 ≠ s5 ∧ s2 ≠ S ∧ s3 ≠ bm ∧ s3 ≠ s5 ∧ s3 ≠ S ∧ bm ≠ s5 ∧ bm ≠ S ∧ s5 ≠ S
  below : Below w0.heap.size w0 w

theorem row_of {w : World} {b : Nat} {t : TypeId} {n : Nat} {z : Value} (h : w.heap[b]? = some (.cells (madeCells #[z] n) t)) : w.rowIs b t n (fun _ => z) :=
  ⟨_, h, size_madeCells _ _, fun i hi => by simp [madeCells, hi, Nat.mod_one]⟩

theorem made {m k : Nat} {vI vA : Value} {w0 : World} {σ : Nat → Nat} {L : Nat → Bool} {u : Nat → Value} {w : World} (h : At m k vI vA w0 σ L u w) (hall : ∀ i, i < 19 → L i = true) :
    u 18 = .pointer (some ⟨σ 17, 0, none⟩) ∧ Made w0 m k (σ 3) (σ 6) (σ 10) (σ 11) (σ 15) (σ 17) w := by
  have a3 : isA 3 := by simp [isA]
  have a6 : isA 6 := by simp [isA]
  have a10 : isA 10 := by simp [isA]
  have a11 : isA 11 := by simp [isA]
  have a15 : isA 15 := by simp [isA]
  have a17 : isA 17 := by simp [isA]
  have b := fun j hj hlt => h.blk j hj (hall j hlt)
  have n := fun i j hi hj li lj => h.ne i j hi hj (hall i li) (hall j lj)
  refine ⟨h.slot 18 (by omega) (hall 18 (by omega)), ⟨row_of (b 3 a3 (by omega)).2, row_of (b 6 a6 (by omega)).2, row_of (b 10 a10 (by omega)).2, (b 11 a11 (by omega)).2, row_of (b 15 a15 (by omega)).2, (b 17 a17 (by omega)).2,
    ⟨(b 3 a3 (by omega)).1, (b 6 a6 (by omega)).1, (b 10 a10 (by omega)).1, (b 11 a11 (by omega)).1, (b 15 a15 (by omega)).1, (b 17 a17 (by omega)).1⟩, ?_, h.below⟩⟩
  refine ⟨n 3 6 a3 a6 ?_ ?_ ?_, n 3 10 a3 a10 ?_ ?_ ?_, n 3 11 a3 a11 ?_ ?_ ?_, n 3 15 a3 a15 ?_ ?_ ?_, n 3 17 a3 a17 ?_ ?_ ?_, n 6 10 a6 a10 ?_ ?_ ?_, n 6 11 a6 a11 ?_ ?_ ?_, n 6 15 a6 a15 ?_ ?_ ?_, n 6 17 a6 a17 ?_ ?_ ?_,
    n 10 11 a10 a11 ?_ ?_ ?_, n 10 15 a10 a15 ?_ ?_ ?_, n 10 17 a10 a17 ?_ ?_ ?_, n 11 15 a11 a15 ?_ ?_ ?_, n 11 17 a11 a17 ?_ ?_ ?_, n 15 17 a15 a17 ?_ ?_ ?_⟩ <;> omega
end Go.Proofs.Qxb6600407a.Five
