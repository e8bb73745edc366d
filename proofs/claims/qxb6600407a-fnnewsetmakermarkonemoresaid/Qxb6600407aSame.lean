/-
  Seat b6600407a: zzB1SameInts (function 10), at the two shapes that the law hands it; and what of two makers' fields stands behind one another.
-/
import Derived.Test.Qxb6600407aZZ
import Derived.Test.Qxb6600407aSingles
namespace Go.Proofs.Qxb6600407a
open Go.RowKit Marks

set_option maxHeartbeats 400000 in
theorem same_nil (w : World) : Calls Try.prog 10 #[.slice none 0 0, .slice none 0 0] w fun e w' => e = .returned (.bool true) ∧ ∃ q, w' = w.drewN q := by
  go_enter Try.func10, Try.ntmps10
  go_wp2
  refine wp_loop_rounds 1 ?_
  rw [rounds_succ]
  go_wp2
  go_ret
  exact ⟨rfl, 0, rfl⟩

set_option maxHeartbeats 400000 in
theorem same_one (w : World) (g1 r1 g2 r2 : Nat) (x : Int) (h1 : w.cell? ⟨g1, r1, none⟩ = some (.int .i64 x)) (h2 : w.cell? ⟨g2, r2, none⟩ = some (.int .i64 x)) :
    Calls Try.prog 10 #[.slice (some ⟨g1, r1, none⟩) 1 1, .slice (some ⟨g2, r2, none⟩) 1 1] w fun e w' => e = .returned (.bool true) ∧ ∃ q, w' = w.drewN q := by
  go_enter Try.func10, Try.ntmps10
  go_wp2
  refine wp_loop_rounds 2 ?_
  rw [rounds_succ]
  go_wp2
  go_quiet (fail)
  go_wp2
  rw [rounds_succ]
  go_wp2
  go_ret
  exact ⟨rfl, _, rfl⟩

theorem kept_below {w w' : World} {f : Nat → Bool} {n g s1 s2 s3 s5 : Nat} (h : Kept f n g s1 s2 s3 s5 w) (hb : Below w.heap.size w w') : Kept f n g s1 s2 s3 s5 w' := by
  have go : ∀ (p : Addr) (v : Value), w.cell? p = some v → w'.cell? p = some v := fun p v hp => (hb.cell (World.block_lt_of_cell? _ p hp)).trans hp
  exact ⟨fun t ht => go _ _ (h.sets t ht), fun t ht => go _ _ (h.setOf t ht), fun t ht => go _ _ (h.alone t ht), fun t ht => go _ _ (h.brought t ht), fun t ht => go _ _ (h.ids t ht)⟩
theorem bz_below {w w' : World} {a : Option Addr} {b n : Nat} {f : Nat → Bool} (h : Bz w a b n f) (hb : Below w.heap.size w w') : Bz w' a b n f :=
  ⟨h.adr, fun i hi => (hb.cell (World.block_lt_of_cell? _ ⟨b, i, none⟩ (h.cell i hi))).trans (h.cell i hi)⟩

/-- Two makers' fields, side by side. -/
structure Two (w : World) (f : Nat → Bool) (j n g s1 s2 s3 s5 g' t1 t2 t3 t5 : Nat) (wx : World) : Prop where
  k1 : Kept f n g s1 s2 s3 s5 wx
  k2 : Kept (more f j) n g' t1 t2 t3 t5 wx
  below : Below w.heap.size w wx
theorem two_drewN {w wx : World} {f : Nat → Bool} {j n g s1 s2 s3 s5 g' t1 t2 t3 t5 : Nat} (h : Two w f j n g s1 s2 s3 s5 g' t1 t2 t3 t5 wx) (q : Nat) : Two w f j n g s1 s2 s3 s5 g' t1 t2 t3 t5 (wx.drewN q) :=
  ⟨kept_drewN h.k1 q, kept_drewN h.k2 q, h.below.trans ⟨rfl, rfl, rfl, Nat.le_refl _, fun _ _ => rfl⟩⟩

/-- The copy with one more mark. -/
theorem cp_mark {w wr : World} {n k j : Nat} {f : Nat → Bool} (h : Cp w wr n k f) (hk : n ≤ k) : Bz (wr.setCell ⟨w.heap.size, j, none⟩ (.bool true)) (some ⟨w.heap.size, 0, none⟩) w.heap.size n (more f j) := by
  refine ⟨fun _ => rfl, fun i hi => ?_⟩
  rw [(h.row.set j (.bool true)).cell hi, if_pos (show i < k by omega)]
  unfold more
  split <;> rfl
end Go.Proofs.Qxb6600407a
