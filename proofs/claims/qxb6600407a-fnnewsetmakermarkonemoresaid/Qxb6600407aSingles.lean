/-
  Seat b6600407a: the walk of FnNewSetMakerSingletons (function 3).
-/
import Derived.Test.Qxb6600407aZZ
namespace Go.Proofs.Qxb6600407a
open Go.RowKit Marks

theorem setAt_one {g m r : Nat} (h : r < m) : setAt g m (r + 1) = .slice (some ⟨g, r, none⟩) 1 1 := by
  unfold setAt; rw [if_pos (by omega)]; simp
theorem setAt_zero (g m : Nat) : setAt g m 0 = .slice none 0 0 := by unfold setAt; rw [if_neg (by omega)]

set_option maxRecDepth 100000 in
set_option maxHeartbeats 1000000 in
theorem singles_walk (a : Option Addr) (n c : Nat) (f : Nat → Bool) (hn : n ≤ 9223372036854775807) (w : World) (ha : IsBools w a n f) (hc : a = none → c = 0) :
    Calls Try.prog 3 #[.slice a n c] w fun e w' => e = .returned (.bool true) ∧ Below w.heap.size w w' := by
  have HA := hidOf ha
  have HC := hidOf hc
  clear ha hc
  by_cases h20 : n ≤ 1048576
  case neg =>
    go_enter Try.func3, Try.ntmps3
    go_wp2_with fail
    refine (bytes6_any a n c hn _).mono ?_
    rintro e w' ⟨rfl, rfl⟩
    rw [decide_eq_false h20]
    go_wp2
    go_ret
    exact ⟨rfl, Below.refl _ _⟩
  by_cases h16 : n ≤ 65536
  case neg =>
    go_enter Try.func3, Try.ntmps3
    go_wp2_with fail
    refine (bytes6_any a n c hn _).mono ?_
    rintro e w' ⟨rfl, rfl⟩
    rw [decide_eq_true h20]
    go_wp2
    go_ret
    exact ⟨rfl, Below.refl _ _⟩
  go_enter Try.func3, Try.ntmps3
  go_wp2_with fail
  refine (bytes6_any a n c hn _).mono ?_
  rintro e w' ⟨rfl, rfl⟩
  rw [decide_eq_true h20]
  go_wp2_with fail
  refine (clone_any a n c f h20 _ (by exact HA.out) HC.out).mono ?_
  rintro e w1 ⟨a1, b1, rfl, hz, hb1, hbel1⟩
  have HZ := hidOf hz
  have HB1 := hidOf hbel1
  clear hz hbel1 hb1
  go_wp2_with fail
  refine (zz_any a1 b1 n n f h20 _ (by exact HZ.out)).mono ?_
  rintro e w2 ⟨g, s1, s2, s3, s5, rfl, hK, hbel2⟩
  have HK := hidOf hK
  have HB2 := hidOf hbel2
  clear hK hbel2
  unfold tup
  have hrk := rk_le f n
  have hz0 := HK.out.sets 0 (by omega)
  rw [setAt_zero] at hz0
  generalize hm : rk f n = m at *
  have HM := hidOf hm
  clear hm
  go_wp2
  go_loop [12, 13] (fun r i => ∃ k : Nat, k ≤ n ∧ i = .int .i64 k ∧ r = .int .i64 (rk f k)) (fun _ i => n - (intOf i).toNat)
  case atStart => exact ⟨0, Nat.zero_le _, rfl, rfl⟩
  case round =>
    obtain ⟨k, hk, rfl, rfl⟩ := hrel
    have hrl := rk_le f k
    by_cases hlt : k < n
    · have had := HZ.out.adr (by omega)
      have c0 := HZ.out.cell k hlt
      have cm := (HB2.out.cell (p := ⟨b1, k, none⟩) (World.block_lt_of_cell? _ ⟨b1, k, none⟩ c0)).trans c0
      have cs := HK.out.setOf k hlt
      have cal := HK.out.alone k hlt
      clear c0
      subst had
      cases hf : f k with
      | false =>
        have E := hidOf (rk_miss f k hf)
        rw [hf] at cm cal
        rw [if_neg (by simp)] at cal
        clear hf
        go_wp2
        go_round
        case rel => exact ⟨k + 1, by omega, by go_num, by rw [E.out]⟩
        case measure => simp [intOf]; omega
      | true =>
        have E := hidOf (rk_hit f k hf)
        have hlm : rk f k < m := by have := rk_lt f hlt hf; have := HM.out; omega
        have cst := HK.out.sets (rk f k + 1) (by have := HM.out; omega)
        rw [HM.out, setAt_one hlm] at cst
        have cid := HK.out.ids (rk f k) (by have := HM.out; omega)
        rw [at_rank f hlt hf] at cid
        rw [hf] at cm cal
        rw [if_pos rfl] at cal
        clear hf
        generalize rk f k = r at *
        go_wp2
        go_round
        case rel => exact ⟨k + 1, by omega, by go_num, by rw [E.out]; go_num⟩
        case measure => simp [intOf]; omega
    · have h1 : m ≤ rk f k := by have := HM.out; have := rk_mono f (show n ≤ k by omega); omega
      have h2 : rk f k ≤ m := by have := HM.out; have := rk_mono f hk; omega
      generalize rk f k = r at *
      go_wp2
      go_loop [15] (fun i => ∃ t : Nat, t ≤ 1 + m ∧ i = .int .i64 t) (fun i => 1 + m - (intOf i).toNat)
      case atStart => exact ⟨0, Nat.zero_le _, rfl⟩
      case round =>
        obtain ⟨t, ht, rfl⟩ := hrel
        by_cases hlt' : t < 1 + m
        · have cb := HK.out.brought t (by have := HM.out; omega)
          go_wp2
          go_round
          case rel => exact ⟨t + 1, by omega, by go_num⟩
          case measure => simp [intOf]; omega
        · go_wp2
          go_ret
          exact ⟨rfl, HB1.out.trans (HB2.out.mono HB1.out.size)⟩
end Go.Proofs.Qxb6600407a
