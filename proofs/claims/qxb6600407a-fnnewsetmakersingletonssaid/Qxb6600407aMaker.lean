/-
  Seat b6600407a: newSetMaker (function 15).
-/
import Derived.Test.Qxb6600407aFill
import Derived.Deep.DeepCutAuto
namespace Go.Proofs.Qxb6600407a
open Go.RowKit Marks RegInv

/-- The ids as cells. -/
def idv (f : Nat → Bool) (k : Nat) : List Value := (ids f k).map fun x : Nat => .int .i64 (x : Int)
theorem idv_hit (f : Nat → Bool) (k : Nat) (h : f k = true) : idv f k ++ [.int .i64 (k : Int)] = idv f (k + 1) := by simp [idv, ids_hit f k h]
theorem idv_miss (f : Nat → Bool) (k : Nat) (h : f k = false) : idv f (k + 1) = idv f k := by simp [idv, ids_miss f k h]

/-- The first loop's relation. -/
structure Gather (w wr : World) (f : Nat → Bool) (k : Nat) (v : Value) : Prop where
  own : wr.ownsRow w.heap.size 3 1 v (rk f k) (idv f k)
  below : Below w.heap.size w wr

theorem gather_start (w : World) (f : Nat → Bool) : Gather w w f 0 (.slice none 0 0) :=
  ⟨World.ownsRow_nil _ _ _ _, Below.refl _ _⟩
/-- The ids at hand: a slice of m numbers at the head of block g (where m = 0 nothing is said of its address). -/
structure Idz (B : Nat) (w : World) (ao : Option Addr) (g m cap : Nat) (q : Nat → Nat) : Prop where
  adr : 0 < m → ao = some ⟨g, 0, none⟩
  room : m ≤ cap
  low : 0 < m → B ≤ g
  cell : ∀ j, j < m → w.cell? ⟨g, j, none⟩ = some (.int .i64 (q j : Int))
theorem gather_done {w wr : World} {f : Nat → Bool} {k : Nat} {v : Value} (h : Gather w wr f k v) : ∃ ao g cap, v = .slice ao (rk f k) cap ∧ Idz w.heap.size wr ao g (rk f k) cap (at' f k) := by
  have ho := h.own
  rcases h.own.2 with ⟨e, h0⟩ | ⟨g, cap, cur, e, hge, hh, hcap, _⟩
  · exact ⟨none, 0, 0, by rw [e, h0], by rw [h0]; exact ⟨fun h => absurd h (by omega), Nat.le_refl _, fun h => absurd h (by omega), fun j hj => absurd hj (by omega)⟩⟩
  · refine ⟨some ⟨g, 0, none⟩, g, cap, e, ⟨fun _ => rfl, hcap, fun _ => hge, fun j hj => ?_⟩⟩
    rw [e] at ho
    rw [ho.cellAt j (by omega)]
    obtain ⟨x, h0, _⟩ := ids_some f hj
    simp [idv, h0, at_eq f h0]
theorem gather_miss {w wr : World} {f : Nat → Bool} {k : Nat} {v : Value} (h : Gather w wr f k v) (hf : f k = false) : Gather w wr f (k + 1) v :=
  ⟨by rw [rk_miss f k hf, idv_miss f k hf]; exact h.own, h.below⟩
theorem gather_hit {w wr : World} {f : Nat → Bool} {k : Nat} {v : Value} (h : Gather w wr f k v) (hf : f k = true) {o : Obj} {v' : Value} {w1 : World}
    (hown : w1.ownsRow w.heap.size 3 1 v' (rk f k + 1) (idv f k ++ [.int .i64 (k : Int)])) (hg : (wr.alloc o).grownBy w1 v.ownBlock) : Gather w w1 f (k + 1) v' := by
  refine ⟨by rw [rk_hit f k hf, ← idv_hit f k hf]; exact hown, ?_⟩
  refine (h.below.alloc h.below.size _).grown hg (by have := h.below.size; simp; omega) ?_
  intro b hb
  rcases h.own.2 with ⟨e, _⟩ | ⟨g, cap, cur, e, hge, _⟩
  · rw [e] at hb; simp [Value.ownBlock] at hb
  · rw [e] at hb; simp [Value.ownBlock] at hb; omega

/-- WHAT newSetMaker LEAVES: the struct at S; sets at s1, setOf at s2, alone at s3, the map at bm, broughtTo at s5; the ids at g. -/
def Maker (w : World) (f : Nat → Bool) (n : Nat) (e : Ending) (w' : World) : Prop :=
  ∃ (w0 : World) (g s1 s2 s3 bm s5 S : Nat), e = .returned (.pointer (some ⟨S, 0, none⟩)) ∧ Filled w0 f (rk f n) n g s1 s2 s3 bm s5 S (rk f n) w' ∧ Below w.heap.size w w0 ∧
    ∀ t, t < rk f n → w'.cell? ⟨g, t, none⟩ = some (.int .i64 (at' f n t : Int))
theorem maker_of {w w0 w' : World} {f : Nat → Bool} {n m j g cap s1 s2 s3 bm s5 S : Nat} {ao : Option Addr} (hm : rk f n = m) (hj : m ≤ j) (hj' : j ≤ m) (hF : Filled w0 f m n g s1 s2 s3 bm s5 S j w') (hb : Below w.heap.size w w0) (hI : Idz w.heap.size w0 ao g m cap (at' f n)) :
    Maker w f n (.returned (.pointer (some ⟨S, 0, none⟩))) w' := by
  obtain rfl : j = m := by omega
  subst hm
  refine ⟨w0, g, s1, s2, s3, bm, s5, S, rfl, hF, hb, fun t ht => ?_⟩
  have h := hI.cell t ht
  rw [hF.below.cell (p := ⟨g, t, none⟩) (World.block_lt_of_cell? _ ⟨g, t, none⟩ h)]
  exact h
theorem id_cell {w w0 w' : World} {f : Nat → Bool} {n m j g cap s1 s2 s3 bm s5 S : Nat} {ao : Option Addr} (hF : Filled w0 f m n g s1 s2 s3 bm s5 S j w') (hI : Idz w.heap.size w0 ao g m cap (at' f n)) (t : Nat) (ht : t < m) :
    w'.cell? ⟨g, t, none⟩ = some (.int .i64 (at' f n t : Int)) := by
  have h := hI.cell t ht
  rw [hF.below.cell (p := ⟨g, t, none⟩) (World.block_lt_of_cell? _ ⟨g, t, none⟩ h)]
  exact h

/-- The region's own slots. -/
def sl8 (t : Nat) : Option Nat := if t = 6 then some 18 else if 22 ≤ t ∧ t ≤ 39 then some (t - 22) else none
def ds8 (k : Nat) : Nat := if k = 18 then 6 else k + 22
theorem sl8_ds (t k : Nat) (h : sl8 t = some k) : t = ds8 k := by
  unfold sl8 at h; unfold ds8
  split at h
  · cases h; simp; assumption
  · split at h
    · cases h; rw [if_neg (by omega)]; omega
    · cases h
theorem sl8_lt {t k : Nat} (h : sl8 t = some k) : t < 72 := by
  have := sl8_ds t k h
  unfold sl8 at h
  split at h
  · omega
  · split at h
    · omega
    · cases h

set_option maxHeartbeats 1000000 in
theorem maker_any (a : Option Addr) (b n c : Nat) (f : Nat → Bool) (hn : n ≤ 1048576) (w : World) (ha : Bz w a b n f) :
    Calls Try.prog 15 #[.slice a n c] w fun e w' => Maker w f n e w' := by
  obtain ⟨i0, hi, hz0, hz1, hz2⟩ := info_parts info3
  have HA := hidOf ha
  clear ha
  go_enter Try.func15, Try.ntmps15
  go_wp2
  go_loopw [3, 11] (fun v i wr => ∃ k : Nat, k ≤ n ∧ i = .int .i64 k ∧ Gather w wr f k v) (fun _ i _ => n - (intOf i).toNat)
  case atStart => exact ⟨0, Nat.zero_le _, rfl, gather_start w f⟩
  case round =>
    obtain ⟨k, hk, rfl, hG⟩ := hrel
    by_cases hlt : k < n
    · obtain rfl := HA.out.adr (by omega)
      have hc0 := HA.out.cell k hlt
      have hb : b < w.heap.size := World.block_lt_of_cell? _ ⟨b, k, none⟩ hc0
      have hc1 := (hG.below.cell (p := ⟨b, k, none⟩) hb).trans hc0
      clear hc0
      have hrl := rk_le f k
      have hG' := hidOf hG
      cases hf : f k with
      | false =>
        have hnext := hidOf (gather_miss hG hf)
        rw [hf] at hc1
        clear hf hG
        go_wp2
        go_roundw
        case rel => exact ⟨k + 1, by omega, by go_num, hnext.out⟩
        case measure => simp [intOf]; omega
      | true =>
        have hF := hidOf hf
        rw [hf] at hc1
        have hown := hG.own
        clear hf hG
        go_wp2_with (first | (at_builtin; refine wpList_append_own _ rfl _ _ 26 rfl w.heap.size 3 i0 (.int .i64 0) 1 8 Try.underlying26 hi hz0 hz1 hz2 rfl (by decide) _ _ _ rfl (hown.alloc _) ⟨wr.heap.size, 0, none⟩ 1 1 [.int .i64 (k : Int)] rfl rfl ?c1 ?c2 ?c3 ?c4 ?c5 ?_) | go_in)
        case c1 =>
          intro j u hj
          match j, hj with
          | 0, hj => simp at hj; subst hj; simp [Addr.add]
        case c2 => intro u hu; simp at hu; subst hu; rfl
        case c3 => unfold maxLen; omega
        case c4 => omega
        case c5 => have := hG'.out.below.size; simp; omega
        intro v' w1 hown' hgrow _
        have hnext := hidOf (gather_hit hG'.out hF.out hown' hgrow)
        clear hown' hgrow hown
        go_wp2
        go_roundw
        case rel => exact ⟨k + 1, by omega, by go_num, hnext.out⟩
        case measure => simp [intOf]; omega
    · obtain rfl : k = n := by omega
      obtain ⟨ao, g, cap, hv, hI⟩ := gather_done hG
      have hbel := hidOf hG.below
      rw [hv]
      have HI := hidOf hI
      clear hv hI hG hlt hk
      have hrl := rk_le f k
      generalize hm : rk f k = m at *
      have HM := hidOf hm
      clear hm
      have hmkS := run_make_row' (P := Try.prog) 25 26 (.slice none 0 0) 24 Try.underlying25 info26 rfl .i64 .i64 (1 + m) (by omega) (by omega)
      have hmkI := run_make_row' (P := Try.prog) 26 3 (.int .i64 0) 8 Try.underlying26 info3 rfl .i64 .i64 (1 + m) (by omega) (by omega)
      have hmkN := run_make_row' (P := Try.prog) 26 3 (.int .i64 0) 8 Try.underlying26 info3 rfl .i64 .i64 k (by omega) (by omega)
      rw [show (((1 + m : Nat)) : Int) = 1 + (m : Int) by omega] at hmkS hmkI
      have hmm := @run_makeMap Try.prog
      go_wp2
      go_cut [6] (fun s wx => ∃ s1 s2 s3 bm s5 S : Nat, s = .pointer (some ⟨S, 0, none⟩) ∧ Five.Made wr m k s1 s2 s3 bm s5 S wx)
      case first =>
        refine wp_region_inv (by kernel_rfl) sl8 ds8 (fun L u w => ∃ σ, Five.At m k (.slice ao m cap) (.slice a k c) wr σ L u w) sl8_ds (fun t k h => sl8_lt h) (of_chk (by kernel_rfl)) (fun u => Five.start _ _ _ _ _ u) ?_ ?_
        · intro i hi'
          have hi : i < 19 := hi'
          clear hi'
          rcases (show i = 0 ∨ i = 1 ∨ i = 2 ∨ i = 3 ∨ i = 4 ∨ i = 5 ∨ i = 6 ∨ i = 7 ∨ i = 8 ∨ i = 9 ∨ i = 10 ∨ i = 11 ∨ i = 12 ∨ i = 13 ∨ i = 14 ∨ i = 15 ∨ i = 16 ∨ i = 17 ∨ i = 18 by omega) with
            rfl | rfl | rfl | rfl | rfl | rfl | rfl | rfl | rfl | rfl | rfl | rfl | rfl | rfl | rfl | rfl | rfl | rfl | rfl
          · -- operation 0
            intro ρ L u w1 o hit miss con hJ ho hL haf
            obtain ⟨σ, hJ⟩ := hJ
            obtain rfl := Option.some.inj ho
            refine ⟨_, _, ?_, Five.pure' hJ 0 (by simp [Five.isA]) (by simp [Five.D])⟩
            have e : ρ (.tmp 3) = .slice ao m cap := miss 3 rfl
            simp [execOp, e, Five.val]
          · -- operation 1
            intro ρ L u w1 o hit miss con hJ ho hL haf
            obtain ⟨σ, hJ⟩ := hJ
            obtain rfl := Option.some.inj ho
            have h0 := haf { on := 0, ground := .data } (by simp) rfl
            have e0 : ρ (.tmp 22) = Five.val m k (.slice ao m cap) (.slice a k c) σ 0 := (hit 22 0 rfl).trans (hJ.slot 0 (by omega) h0)
            refine ⟨_, _, ?_, Five.pure' hJ 1 (by simp [Five.isA]) (by simp [Five.D])⟩
            simp [execOp, e0, Five.val, go_sem]
          · -- operation 2
            intro ρ L u w1 o hit miss con hJ ho hL haf
            obtain ⟨σ, hJ⟩ := hJ
            obtain rfl := Option.some.inj ho
            have h1 := haf { on := 1, ground := .data } (by simp) rfl
            have e1 : ρ (.tmp 23) = Five.val m k (.slice ao m cap) (.slice a k c) σ 1 := (hit 23 1 rfl).trans (hJ.slot 1 (by omega) h1)
            refine ⟨_, _, ?_, Five.pure' hJ 2 (by simp [Five.isA]) (by simp [Five.D])⟩
            simp [execOp, e1, con, Five.val, go_sem]
            rw [IntKind.wrap_i64]
            omega
          · -- operation 3
            intro ρ L u w1 o hit miss con hJ ho hL haf
            obtain ⟨σ, hJ⟩ := hJ
            obtain rfl := Option.some.inj ho
            have h2 := haf { on := 2, ground := .data } (by simp) rfl
            have e2 : ρ (.tmp 24) = Five.val m k (.slice ao m cap) (.slice a k c) σ 2 := (hit 24 2 rfl).trans (hJ.slot 2 (by omega) h2)
            refine ⟨_, _, ?_, Five.lay hJ 3 (by simp [Five.isA]) hL (by simp [Five.D])⟩
            simp [execOp, e2, Five.val, Five.obj, Five.upd, hmkS]
          · -- operation 4
            intro ρ L u w1 o hit miss con hJ ho hL haf
            obtain ⟨σ, hJ⟩ := hJ
            obtain rfl := Option.some.inj ho
            refine ⟨_, _, ?_, Five.pure' hJ 4 (by simp [Five.isA]) (by simp [Five.D])⟩
            have e : ρ (.tmp 0) = .slice a k c := miss 0 rfl
            simp [execOp, e, Five.val]
          · -- operation 5
            intro ρ L u w1 o hit miss con hJ ho hL haf
            obtain ⟨σ, hJ⟩ := hJ
            obtain rfl := Option.some.inj ho
            have h4 := haf { on := 4, ground := .data } (by simp) rfl
            have e4 : ρ (.tmp 26) = Five.val m k (.slice ao m cap) (.slice a k c) σ 4 := (hit 26 4 rfl).trans (hJ.slot 4 (by omega) h4)
            refine ⟨_, _, ?_, Five.pure' hJ 5 (by simp [Five.isA]) (by simp [Five.D])⟩
            simp [execOp, e4, Five.val, go_sem]
          · -- operation 6
            intro ρ L u w1 o hit miss con hJ ho hL haf
            obtain ⟨σ, hJ⟩ := hJ
            obtain rfl := Option.some.inj ho
            have h5 := haf { on := 5, ground := .data } (by simp) rfl
            have e5 : ρ (.tmp 27) = Five.val m k (.slice ao m cap) (.slice a k c) σ 5 := (hit 27 5 rfl).trans (hJ.slot 5 (by omega) h5)
            refine ⟨_, _, ?_, Five.lay hJ 6 (by simp [Five.isA]) hL (by simp [Five.D])⟩
            simp [execOp, e5, Five.val, Five.obj, Five.upd, hmkN]
          · -- operation 7
            intro ρ L u w1 o hit miss con hJ ho hL haf
            obtain ⟨σ, hJ⟩ := hJ
            obtain rfl := Option.some.inj ho
            have h3 := haf { on := 3, ground := .data } (by simp) rfl
            have e3 : ρ (.tmp 25) = Five.val m k (.slice ao m cap) (.slice a k c) σ 3 := (hit 25 3 rfl).trans (hJ.slot 3 (by omega) h3)
            have h6 := haf { on := 6, ground := .data } (by simp) rfl
            have e6 : ρ (.tmp 28) = Five.val m k (.slice ao m cap) (.slice a k c) σ 6 := (hit 28 6 rfl).trans (hJ.slot 6 (by omega) h6)
            refine ⟨_, _, ?_, Five.pure' hJ 7 (by simp [Five.isA]) (by simp [Five.D, h3, h6])⟩
            simp [execOp, e3, e6, Five.val, go_sem]
          · -- operation 8
            intro ρ L u w1 o hit miss con hJ ho hL haf
            obtain ⟨σ, hJ⟩ := hJ
            obtain rfl := Option.some.inj ho
            refine ⟨_, _, ?_, Five.pure' hJ 8 (by simp [Five.isA]) (by simp [Five.D])⟩
            have e : ρ (.tmp 0) = .slice a k c := miss 0 rfl
            simp [execOp, e, Five.val]
          · -- operation 9
            intro ρ L u w1 o hit miss con hJ ho hL haf
            obtain ⟨σ, hJ⟩ := hJ
            obtain rfl := Option.some.inj ho
            have h8 := haf { on := 8, ground := .data } (by simp) rfl
            have e8 : ρ (.tmp 30) = Five.val m k (.slice ao m cap) (.slice a k c) σ 8 := (hit 30 8 rfl).trans (hJ.slot 8 (by omega) h8)
            refine ⟨_, _, ?_, Five.pure' hJ 9 (by simp [Five.isA]) (by simp [Five.D])⟩
            simp [execOp, e8, Five.val, go_sem]
          · -- operation 10
            intro ρ L u w1 o hit miss con hJ ho hL haf
            obtain ⟨σ, hJ⟩ := hJ
            obtain rfl := Option.some.inj ho
            have h9 := haf { on := 9, ground := .data } (by simp) rfl
            have e9 : ρ (.tmp 31) = Five.val m k (.slice ao m cap) (.slice a k c) σ 9 := (hit 31 9 rfl).trans (hJ.slot 9 (by omega) h9)
            refine ⟨_, _, ?_, Five.lay hJ 10 (by simp [Five.isA]) hL (by simp [Five.D])⟩
            simp [execOp, e9, Five.val, Five.obj, Five.upd, hmkN]
          · -- operation 11
            intro ρ L u w1 o hit miss con hJ ho hL haf
            obtain ⟨σ, hJ⟩ := hJ
            obtain rfl := Option.some.inj ho
            refine ⟨_, _, ?_, Five.lay hJ 11 (by simp [Five.isA]) hL (by simp [Five.D])⟩
            simp [execOp, Five.val, Five.obj, Five.upd, hmm]
          · -- operation 12
            intro ρ L u w1 o hit miss con hJ ho hL haf
            obtain ⟨σ, hJ⟩ := hJ
            obtain rfl := Option.some.inj ho
            refine ⟨_, _, ?_, Five.pure' hJ 12 (by simp [Five.isA]) (by simp [Five.D])⟩
            have e : ρ (.tmp 3) = .slice ao m cap := miss 3 rfl
            simp [execOp, e, Five.val]
          · -- operation 13
            intro ρ L u w1 o hit miss con hJ ho hL haf
            obtain ⟨σ, hJ⟩ := hJ
            obtain rfl := Option.some.inj ho
            have h12 := haf { on := 12, ground := .data } (by simp) rfl
            have e12 : ρ (.tmp 34) = Five.val m k (.slice ao m cap) (.slice a k c) σ 12 := (hit 34 12 rfl).trans (hJ.slot 12 (by omega) h12)
            refine ⟨_, _, ?_, Five.pure' hJ 13 (by simp [Five.isA]) (by simp [Five.D])⟩
            simp [execOp, e12, Five.val, go_sem]
          · -- operation 14
            intro ρ L u w1 o hit miss con hJ ho hL haf
            obtain ⟨σ, hJ⟩ := hJ
            obtain rfl := Option.some.inj ho
            have h13 := haf { on := 13, ground := .data } (by simp) rfl
            have e13 : ρ (.tmp 35) = Five.val m k (.slice ao m cap) (.slice a k c) σ 13 := (hit 35 13 rfl).trans (hJ.slot 13 (by omega) h13)
            refine ⟨_, _, ?_, Five.pure' hJ 14 (by simp [Five.isA]) (by simp [Five.D])⟩
            simp [execOp, e13, con, Five.val, go_sem]
            rw [IntKind.wrap_i64]
            omega
          · -- operation 15
            intro ρ L u w1 o hit miss con hJ ho hL haf
            obtain ⟨σ, hJ⟩ := hJ
            obtain rfl := Option.some.inj ho
            have h14 := haf { on := 14, ground := .data } (by simp) rfl
            have e14 : ρ (.tmp 36) = Five.val m k (.slice ao m cap) (.slice a k c) σ 14 := (hit 36 14 rfl).trans (hJ.slot 14 (by omega) h14)
            refine ⟨_, _, ?_, Five.lay hJ 15 (by simp [Five.isA]) hL (by simp [Five.D])⟩
            simp [execOp, e14, Five.val, Five.obj, Five.upd, hmkI]
          · -- operation 16
            intro ρ L u w1 o hit miss con hJ ho hL haf
            obtain ⟨σ, hJ⟩ := hJ
            obtain rfl := Option.some.inj ho
            have h7 := haf { on := 7, ground := .data } (by simp) rfl
            have e7 : ρ (.tmp 29) = Five.val m k (.slice ao m cap) (.slice a k c) σ 7 := (hit 29 7 rfl).trans (hJ.slot 7 (by omega) h7)
            have h10 := haf { on := 10, ground := .data } (by simp) rfl
            have e10 : ρ (.tmp 32) = Five.val m k (.slice ao m cap) (.slice a k c) σ 10 := (hit 32 10 rfl).trans (hJ.slot 10 (by omega) h10)
            have h11 := haf { on := 11, ground := .data } (by simp) rfl
            have e11 : ρ (.tmp 33) = Five.val m k (.slice ao m cap) (.slice a k c) σ 11 := (hit 33 11 rfl).trans (hJ.slot 11 (by omega) h11)
            have h15 := haf { on := 15, ground := .data } (by simp) rfl
            have e15 : ρ (.tmp 37) = Five.val m k (.slice ao m cap) (.slice a k c) σ 15 := (hit 37 15 rfl).trans (hJ.slot 15 (by omega) h15)
            have d3 := hJ.dep 7 h7 3 (by simp [Five.D])
            have d6 := hJ.dep 7 h7 6 (by simp [Five.D])
            refine ⟨_, _, ?_, Five.pure' hJ 16 (by simp [Five.isA]) (by simp [Five.D, d3, d6, h10, h11, h15])⟩
            simp [execOp, e7, e10, e11, e15, Five.val, Five.cells, go_sem]
          · -- operation 17
            intro ρ L u w1 o hit miss con hJ ho hL haf
            obtain ⟨σ, hJ⟩ := hJ
            obtain rfl := Option.some.inj ho
            have h16 := haf { on := 16, ground := .data } (by simp) rfl
            have e16 : ρ (.tmp 38) = Five.val m k (.slice ao m cap) (.slice a k c) σ 16 := (hit 38 16 rfl).trans (hJ.slot 16 (by omega) h16)
            have d := hJ.dep 16 h16
            simp [Five.D] at d
            refine ⟨_, _, ?_, Five.lay hJ 17 (by simp [Five.isA]) hL (by simp [Five.D, d])⟩
            simp [execOp, e16, Five.val, Five.obj, Five.upd, Five.cells, go_sem]
          · -- operation 18
            intro ρ L u w1 o hit miss con hJ ho hL haf
            obtain ⟨σ, hJ⟩ := hJ
            obtain rfl := Option.some.inj ho
            have h17 := haf { on := 17, ground := .data } (by simp) rfl
            have e17 : ρ (.tmp 39) = Five.val m k (.slice ao m cap) (.slice a k c) σ 17 := (hit 39 17 rfl).trans (hJ.slot 17 (by omega) h17)
            refine ⟨_, _, ?_, Five.pure' hJ 18 (by simp [Five.isA]) (by simp [Five.D, h17])⟩
            simp [execOp, e17, Five.val]
        · intro L u w1 hall hJ
          obtain ⟨σ, hJ⟩ := hJ
          obtain ⟨hu, hM⟩ := Five.made hJ hall
          simp [frameOf, over, sl8]
          go_wp2_with fail
          go_meet
          case rel => exact ⟨_, _, _, _, _, _, hu, hM⟩
      case rest =>
        obtain ⟨s1, s2, s3, bm, s5, S, hs, hM⟩ := hcut
        subst hs
        have hF := hidOf (fill_start (f := f) (g := g) hM)
        clear hM
        go_wp2
        go_loopw [42] (fun i wx => ∃ j : Nat, j ≤ m ∧ i = .int .i64 j ∧ Filled wr f m k g s1 s2 s3 bm s5 S j wx) (fun i _ => m - (intOf i).toNat)
        case atStart => exact ⟨0, Nat.zero_le _, rfl, hF.out⟩
        case round =>
          obtain ⟨j, hj, rfl, hFj⟩ := hrel
          by_cases hlt : j < m
          · have had := HI.out.adr (by omega)
            have hroom := HI.out.room
            have hnext := hidOf (fill_drew (fill_step hFj HM.out.symm hlt))
            have hid := id_cell hFj HI.out j hlt
            have hx := (at_spec f (show j < rk f k by have := HM.out; omega)).1
            have hS2 := st_cell (i := 2) hFj.st rfl
            have hal := hFj.r3.cell hx
            have hfa := hFj.r3.frozen (at' f k j)
            have hS0 : ∀ v, (wr.setCell ⟨s3, at' f k j, none⟩ v).cell? ⟨S, 0, none⟩ = some (.slice (some ⟨s1, 0, none⟩) (1 + m) (1 + m)) := fun v => by
              rw [World.cell?_of_block (Below.heap_setCell _ _ _ _ (Ne.symm hFj.apart.2.2.2.2.2.2.2.2.2.2.2.1))]; exact st_cell (i := 0) hFj.st rfl
            have hse : ∀ v, (wr.setCell ⟨s3, at' f k j, none⟩ v).cell? ⟨s1, 1 + j, none⟩ = some (setAt g j (1 + j)) := fun v => (hFj.r1.setOther (a := ⟨s3, at' f k j, none⟩) hFj.apart.2.1 v).cell (by omega)
            have hfs : ∀ v, (wr.setCell ⟨s3, at' f k j, none⟩ v).frozen? ⟨s1, 1 + j, none⟩ = false := fun v => (hFj.r1.setOther (a := ⟨s3, at' f k j, none⟩) hFj.apart.2.1 v).frozen _
            have hFj' := hidOf hFj
            clear hFj hF
            generalize at' f k j = x at *
            subst had
            go_wp2
            go_region
            all_goals
              go_wp2
              go_roundw
              case rel => exact ⟨j + 1, by omega, by go_num, hnext.out⟩
              case measure => simp [intOf]; omega
          · go_wp2
            go_ret
            exact maker_of HM.out (by omega) hj hFj hbel.out HI.out
end Go.Proofs.Qxb6600407a
