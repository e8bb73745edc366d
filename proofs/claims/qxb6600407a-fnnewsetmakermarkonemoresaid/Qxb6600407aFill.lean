/-
  Seat b6600407a: newSetMaker's second loop, said of worlds: no walk here.
-/
import Derived.Test.Qxb6600407aFive
namespace Go.Proofs.Qxb6600407a
open Go.RowKit Marks

/-- What alone holds when the first j ids have been seen. -/
def aloneAt (f : Nat → Bool) (j i : Nat) : Int := if f i = true ∧ rk f i < j then (rk f i : Int) + 1 else 0
theorem aloneAt_set (f : Nat → Bool) {n j : Nat} (hj : j < rk f n) (i : Nat) (hi : i < n) : (if i = at' f n j then (1 + (j : Int)) else aloneAt f j i) = aloneAt f (j + 1) i := by
  obtain ⟨h1, h2, h3⟩ := at_spec f hj
  by_cases e : i = at' f n j
  · subst e
    rw [if_pos rfl]; unfold aloneAt; rw [if_pos ⟨h2, by omega⟩, h3]; omega
  · rw [if_neg e]; unfold aloneAt
    by_cases hc : f i = true ∧ rk f i < j
    · rw [if_pos hc, if_pos ⟨hc.1, by omega⟩]
    · rw [if_neg hc, if_neg]
      rintro ⟨c1, c2⟩
      have : rk f i = j := by
        apply Nat.le_antisymm (by omega)
        apply Nat.le_of_not_lt
        intro h
        exact hc ⟨c1, h⟩
      exact e (at_only f hi c1 this)
theorem aloneAt_done (f : Nat → Bool) {n i : Nat} (hi : i < n) : aloneAt f (rk f n) i = if f i = true then (rk f i : Int) + 1 else 0 := by
  unfold aloneAt
  by_cases hf : f i = true
  · rw [if_pos hf, if_pos ⟨hf, rk_lt f hi hf⟩]
  · rw [if_neg hf, if_neg (fun h => hf h.1)]
theorem aloneAt_bd (f : Nat → Bool) (j i : Nat) : 0 ≤ aloneAt f j i ∧ aloneAt f j i ≤ j := by
  unfold aloneAt; split <;> omega

/-- What sets holds when the first j ids have been seen. -/
def setAt (g j t : Nat) : Value := if 0 < t ∧ t ≤ j then .slice (some ⟨g, t - 1, none⟩) 1 1 else .slice none 0 0
theorem setAt_set (g j t : Nat) : (if t = 1 + j then .slice (some ⟨g, j, none⟩) 1 1 else setAt g j t) = setAt g (j + 1) t := by
  unfold setAt
  by_cases e : t = 1 + j
  · subst e; rw [if_pos rfl, if_pos (by omega)]; simp
  · rw [if_neg e]
    by_cases hc : 0 < t ∧ t ≤ j
    · rw [if_pos hc, if_pos (by omega)]
    · rw [if_neg hc, if_neg (by omega)]

structure Filled (w0 : World) (f : Nat → Bool) (m k g s1 s2 s3 bm s5 S j : Nat) (w : World) : Prop where
  r1 : w.rowIs s1 26 (1 + m) (setAt g j)
  r2 : w.rowIs s2 3 k (fun _ => .int .i64 0)
  r3 : w.rowIs s3 3 k (fun i => .int .i64 (aloneAt f j i))
  mp : w.heap[bm]? = some (.map #[] 0)
  r5 : w.rowIs s5 3 (1 + m) (fun _ => .int .i64 0)
  st : w.heap[S]? = some (.cells #[.slice (some ⟨s1, 0, none⟩) (1 + m) (1 + m), .slice (some ⟨s2, 0, none⟩) k k, .slice (some ⟨s3, 0, none⟩) k k, .map (some bm), .slice none 0 0, .slice (some ⟨s5, 0, none⟩) (1 + m) (1 + m), .slice none 0 0, .int .i64 0] 52 (0, 0))
  low : w0.heap.size ≤ s1 ∧ w0.heap.size ≤ s2 ∧ w0.heap.size ≤ s3 ∧ w0.heap.size ≤ bm ∧ w0.heap.size ≤ s5 ∧ w0.heap.size ≤ S
  apart : s1 ≠ s2 ∧ s1 ≠ s3 ∧ s1 ≠ bm ∧ s1 ≠ s5 ∧ s1 ≠ S ∧ s2 ≠ s3 ∧ s2 ≠ bm ∧ s2 ≠ s5 ∧ s2 ≠ S ∧ s3 ≠ bm ∧ s3 ≠ s5 ∧ s3 ≠ S ∧ bm ≠ s5 ∧ bm ≠ S ∧ s5 ≠ S
  below : Below w0.heap.size w0 w

theorem fill_start {w0 w : World} {f : Nat → Bool} {m k g s1 s2 s3 bm s5 S : Nat} (h : Five.Made w0 m k s1 s2 s3 bm s5 S w) : Filled w0 f m k g s1 s2 s3 bm s5 S 0 w :=
  ⟨h.r1.congr fun i _ => by simp [setAt]; omega, h.r2, h.r3.congr fun i _ => by simp [aloneAt], h.mp, h.r5, h.st, h.low, h.apart, h.below⟩

theorem fill_drew {w0 w : World} {f : Nat → Bool} {m k g s1 s2 s3 bm s5 S j : Nat} (h : Filled w0 f m k g s1 s2 s3 bm s5 S j w) : Filled w0 f m k g s1 s2 s3 bm s5 S j w.drew :=
  ⟨h.r1.drew, h.r2.drew, h.r3.drew, h.mp, h.r5.drew, h.st, h.low, h.apart, h.below.drew⟩

theorem fill_step {w0 w : World} {f : Nat → Bool} {m k g s1 s2 s3 bm s5 S j : Nat} (h : Filled w0 f m k g s1 s2 s3 bm s5 S j w) (hm : m = rk f k) (hj : j < m) :
    Filled w0 f m k g s1 s2 s3 bm s5 S (j + 1) ((w.setCell ⟨s3, at' f k j, none⟩ (.int .i64 (1 + (j : Int)))).setCell ⟨s1, 1 + j, none⟩ (.slice (some ⟨g, j, none⟩) 1 1)) := by
  obtain ⟨l1, l2, l3, l4, l5, l6⟩ := h.low
  obtain ⟨a1, a2, a3, a4, a5, a6, a7, a8, a9, a10, a11, a12, a13, a14, a15⟩ := h.apart
  subst hm
  refine ⟨((h.r1.setOther (a := ⟨s3, at' f k j, none⟩) a2 _).set (1 + j) _).congr fun t _ => setAt_set g j t, (h.r2.setOther (a := ⟨s3, at' f k j, none⟩) a6 _).setOther (a := ⟨s1, 1 + j, none⟩) (Ne.symm a1) _,
    ((h.r3.set (at' f k j) _).setOther (a := ⟨s1, 1 + j, none⟩) (Ne.symm a2) _).congr fun i hi => ?_, ?_, (h.r5.setOther (a := ⟨s3, at' f k j, none⟩) (Ne.symm a11) _).setOther (a := ⟨s1, 1 + j, none⟩) (Ne.symm a4) _, ?_, h.low, h.apart,
    (h.below.setCell (p := ⟨s3, at' f k j, none⟩) l3 _).setCell (p := ⟨s1, 1 + j, none⟩) l1 _⟩
  · rw [← aloneAt_set f hj i hi]; split <;> rfl
  · rw [Below.heap_setCell _ _ _ _ (Ne.symm a3), Below.heap_setCell _ _ _ _ (Ne.symm a10)]; exact h.mp
  · rw [Below.heap_setCell _ _ _ _ (Ne.symm a5), Below.heap_setCell _ _ _ _ (Ne.symm a12)]; exact h.st

/-- A cell of the struct. -/
theorem st_cell {w : World} {b : Nat} {c : Array Value} {t : TypeId} (h : w.heap[b]? = some (.cells c t (0, 0))) {i : Nat} {v : Value} (hi : c[i]? = some v) : w.cell? ⟨b, i, none⟩ = some v := by
  simp [World.cell?, h, hi]
end Go.Proofs.Qxb6600407a
