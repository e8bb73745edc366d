/-
  Seat b6600407a: ZZNewSetMaker (function 8): the eight fields handed out.
-/
import Derived.Test.Qxb6600407aMaker
import Derived.Deep.QuietTactic
import Derived.BigQuiet
namespace Go.Proofs.Qxb6600407a
open Go.RowKit Marks

/-- WHAT ZZNewSetMaker LEAVES: sets at s1, setOf at s2, alone at s3, broughtTo at s5, the ids at g. -/
structure Kept (f : Nat → Bool) (n g s1 s2 s3 s5 : Nat) (w : World) : Prop where
  sets : ∀ t, t < 1 + rk f n → w.cell? ⟨s1, t, none⟩ = some (setAt g (rk f n) t)
  setOf : ∀ i, i < n → w.cell? ⟨s2, i, none⟩ = some (.int .i64 0)
  alone : ∀ i, i < n → w.cell? ⟨s3, i, none⟩ = some (.int .i64 (if f i = true then (rk f i : Int) + 1 else 0))
  brought : ∀ t, t < 1 + rk f n → w.cell? ⟨s5, t, none⟩ = some (.int .i64 0)
  ids : ∀ t, t < rk f n → w.cell? ⟨g, t, none⟩ = some (.int .i64 (at' f n t : Int))

def tup (m n s1 s2 s3 s5 : Nat) : Value :=
  .tuple #[.slice (some ⟨s1, 0, none⟩) (1 + m) (1 + m), .slice (some ⟨s2, 0, none⟩) n n, .slice (some ⟨s3, 0, none⟩) n n, .slice (some ⟨s5, 0, none⟩) (1 + m) (1 + m), .int .i64 0, .slice none 0 0, .slice none 0 0, .int .i64 0]

def Handed (w : World) (f : Nat → Bool) (n : Nat) (e : Ending) (w' : World) : Prop :=
  ∃ g s1 s2 s3 s5 : Nat, e = .returned (tup (rk f n) n s1 s2 s3 s5) ∧ Kept f n g s1 s2 s3 s5 w' ∧ Below w.heap.size w w'

theorem kept_of {w0 w : World} {f : Nat → Bool} {n g s1 s2 s3 bm s5 S : Nat} (h : Filled w0 f (rk f n) n g s1 s2 s3 bm s5 S (rk f n) w) (hI : ∀ t, t < rk f n → w.cell? ⟨g, t, none⟩ = some (.int .i64 (at' f n t : Int))) : Kept f n g s1 s2 s3 s5 w :=
  ⟨fun _ ht => h.r1.cell ht, fun _ hi => h.r2.cell hi, fun i hi => by rw [h.r3.cell hi, aloneAt_done f hi], fun _ ht => h.r5.cell ht, hI⟩

theorem kept_drewN {w : World} {f : Nat → Bool} {n g s1 s2 s3 s5 : Nat} (h : Kept f n g s1 s2 s3 s5 w) (q : Nat) : Kept f n g s1 s2 s3 s5 (w.drewN q) :=
  ⟨h.sets, h.setOf, h.alone, h.brought, h.ids⟩

theorem run_len_made {w : World} {bm : Nat} (h : w.heap[bm]? = some (.map #[] 0)) (ty : TypeId) : (Builtin.len_ #[50] ty #[.map (some bm)]).run Try.prog w = .ok (.int .i64 0) w := by
  simp [Builtin.len_, run_underlying Try.underlying50, MapKept.run_getObj_map h, goInt, Result.andThen]

set_option maxHeartbeats 1000000 in
theorem zz_any (a : Option Addr) (b n c : Nat) (f : Nat → Bool) (hn : n ≤ 1048576) (w : World) (ha : Bz w a b n f) :
    Calls Try.prog 8 #[.slice a n c] w fun e w' => Handed w f n e w' := by
  have HA := hidOf ha
  clear ha
  go_enter Try.func8, Try.ntmps8
  go_wp2_with fail
  refine (maker_any a b n c f hn _ (by exact HA.out)).mono ?_
  rintro e w1 ⟨w0, g, s1, s2, s3, bm, s5, S, rfl, hF, hb, hI⟩
  have hbel : Below w.heap.size w w1 := hb.trans (hF.below.mono hb.size)
  have c0 := st_cell (i := 0) hF.st rfl
  have c1 := st_cell (i := 1) hF.st rfl
  have c2 := st_cell (i := 2) hF.st rfl
  have c3 := st_cell (i := 3) hF.st rfl
  have c4 := st_cell (i := 4) hF.st rfl
  have c5 := st_cell (i := 5) hF.st rfl
  have c6 := st_cell (i := 6) hF.st rfl
  have c7 := st_cell (i := 7) hF.st rfl
  have hlen : ∀ q ty, (Builtin.len_ #[50] ty #[.map (some bm)]).run Try.prog (w1.drewN q) = .ok (.int .i64 0) (w1.drewN q) := fun q ty => run_len_made (w := w1.drewN q) hF.mp ty
  have hK := hidOf (kept_of hF hI)
  have hB := hidOf hbel
  clear hF hI hb hbel
  generalize hm : rk f n = m at *
  have HM := hidOf hm
  clear hm
  go_wp2
  go_quiet (fail)
  go_wp2
  refine bodyPost_ret (v := tup m n s1 s2 s3 s5) (by simp [results, Try.results8, go_sem, tup]) rfl ?_
  have hm := HM.out
  subst hm
  exact ⟨g, s1, s2, s3, s5, rfl, kept_drewN hK.out _, hB.out.trans ⟨rfl, rfl, rfl, Nat.le_refl _, fun _ _ => rfl⟩⟩
end Go.Proofs.Qxb6600407a
