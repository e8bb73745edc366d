/-
  Seat b6600407a: the walk of FnNewSetMakerMarkOneMore (function 4).
-/
import Derived.Test.Qxb6600407aSame
import Derived.OpenShut
namespace Go.Proofs.Qxb6600407a
open Go.RowKit Marks

set_option maxRecDepth 100000 in
set_option maxHeartbeats 400000 in
/-- The ways that answer at once. -/
theorem more_short (a : Option Addr) (n c : Nat) (j : Int) (hn : n ≤ 9223372036854775807) (w : World) (h : 65536 < n ∨ j < 0 ∨ (n : Int) ≤ j) :
    Calls Try.prog 4 #[.slice a n c, .int .i64 j] w fun e w' => e = .returned (.bool true) ∧ Below w.heap.size w w' := by
  by_cases h20 : n ≤ 1048576
  case neg =>
    go_enter Try.func4, Try.ntmps4
    go_wp2_with fail
    refine (bytes9_any a n c j hn _).mono ?_
    rintro e w' ⟨rfl, rfl⟩
    rw [decide_eq_false h20]
    go_wp2
    go_ret
    exact ⟨rfl, Below.refl _ _⟩
  by_cases h16 : n ≤ 65536
  case neg =>
    go_enter Try.func4, Try.ntmps4
    go_wp2_with fail
    refine (bytes9_any a n c j hn _).mono ?_
    rintro e w' ⟨rfl, rfl⟩
    rw [decide_eq_true h20]
    go_wp2
    go_ret
    exact ⟨rfl, Below.refl _ _⟩
  by_cases h0 : j < 0
  · clear h
    go_enter Try.func4, Try.ntmps4
    go_wp2_with fail
    refine (bytes9_any a n c j hn _).mono ?_
    rintro e w' ⟨rfl, rfl⟩
    rw [decide_eq_true h20]
    go_wp2
    go_ret
    exact ⟨rfl, Below.refl _ _⟩
  · have hj : (n : Int) ≤ j := by omega
    clear h
    go_enter Try.func4, Try.ntmps4
    go_wp2_with fail
    refine (bytes9_any a n c j hn _).mono ?_
    rintro e w' ⟨rfl, rfl⟩
    rw [decide_eq_true h20]
    go_wp2
    go_ret
    exact ⟨rfl, Below.refl _ _⟩

set_option maxRecDepth 100000 in
set_option maxHeartbeats 400000 in
/-- j is marked already. -/
theorem more_marked (b o n c J : Nat) (w : World) (h16 : n ≤ 65536) (hJ : J < n) (hc : w.cell? ⟨b, o + J, none⟩ = some (.bool true)) :
    Calls Try.prog 4 #[.slice (some ⟨b, o, none⟩) n c, .int .i64 J] w fun e w' => e = .returned (.bool true) ∧ Below w.heap.size w w' := by
  go_enter Try.func4, Try.ntmps4
  go_wp2_with fail
  refine (bytes9_any _ n c J (by omega) _).mono ?_
  rintro e w' ⟨rfl, rfl⟩
  rw [decide_eq_true (show n ≤ 1048576 by omega)]
  go_wp2
  go_ret
  exact ⟨rfl, Below.refl _ _⟩

set_option maxRecDepth 100000 in
set_option maxHeartbeats 2000000 in
theorem more_full (b o n c J : Nat) (f : Nat → Bool) (w : World) (h16 : n ≤ 65536) (hJ : J < n) (hf : f J = false) (hcs : ∀ i, i < n → w.cell? ((⟨b, o, none⟩ : Addr).add i) = some (.bool (f i))) :
    Calls Try.prog 4 #[.slice (some ⟨b, o, none⟩) n c, .int .i64 J] w fun e w' => e = .returned (.bool true) ∧ Below w.heap.size w w' := by
  have cj : w.cell? ⟨b, o + J, none⟩ = some (.bool false) := by rw [← addr_add, hcs J hJ, hf]
  have HA : Hid (IsBools w (some ⟨b, o, none⟩) n f) := .inr ⟨_, rfl, hcs⟩
  have HF := hidOf hf
  have hmk := run_make_row' (P := Try.prog) 22 4 (.bool false) 1 Try.underlying22 info4 rfl .i64 .i64 n (by omega) (by omega)
  clear hcs hf
  go_enter Try.func4, Try.ntmps4
  go_wp2_with fail
  refine (bytes9_any _ n c J (by omega) _).mono ?_
  rintro e w' ⟨rfl, rfl⟩
  rw [decide_eq_true (show n ≤ 1048576 by omega)]
  go_wp2_with fail
  refine (clone_any _ n c f (by omega) _ (by exact HA.out) (fun h => by cases h)).mono ?_
  rintro e w1 ⟨a1, b1, rfl, hz, hb1, hbel1⟩
  have had := hz.adr (by omega)
  subst had
  have HZ := hidOf hz
  have HB1 := hidOf hbel1
  clear hz hbel1 hb1 cj
  go_wp2
  go_loopw [6] (fun i wr => ∃ k : Nat, k ≤ n ∧ i = .int .i64 k ∧ Cp w1 wr n k f) (fun i _ => n - (intOf i).toNat)
  case atStart => exact ⟨0, Nat.zero_le _, rfl, cp_start w1 n f⟩
  case round =>
    obtain ⟨k, hk, rfl, hrow⟩ := hrel
    by_cases hlt : k < n
    · have hc0 := HZ.out.cell k hlt
      have hc1 := (hrow.below.cell (p := ⟨b1, k, none⟩) (World.block_lt_of_cell? _ ⟨b1, k, none⟩ hc0)).trans hc0
      have hc2 := cp_cell hrow hlt
      have hfz := hrow.row.frozen k
      have hnext := cp_step hrow
      clear hc0
      go_wp2
      go_roundw
      case rel => exact ⟨k + 1, by omega, by go_num, hnext⟩
      case measure => simp [intOf]; omega
    · have hc2 := hrow.row.cell hJ
      rw [if_pos (by omega)] at hc2
      have hfz := hrow.row.frozen J
      have HM := hidOf (cp_mark (j := J) hrow (by omega))
      have hbel := hidOf (hrow.below.setCell (p := ⟨w1.heap.size, J, none⟩) (Nat.le_refl _) (.bool true))
      clear hrow
      go_wp2_with fail
      generalize wr.setCell ⟨w1.heap.size, J, none⟩ (.bool true) = W at *
      refine (zz_any _ b1 n n f (by omega) _ (by exact bz_below HZ.out hbel.out)).mono ?_
      rintro e w3 ⟨g, s1, s2, s3, s5, rfl, hK, hbel3⟩
      have HK := hidOf hK
      have HB3 := hidOf hbel3
      clear hK hbel3
      unfold tup
      go_wp2_with fail
      refine (zz_any _ w1.heap.size n n (more f J) (by omega) _ (by exact bz_below HM.out HB3.out)).mono ?_
      rintro e w4 ⟨g', t1, t2, t3, t5, rfl, hK', hbel4⟩
      have HT : Hid (Two w f J n g s1 s2 s3 s5 g' t1 t2 t3 t5 w4) := ⟨kept_below HK.out hbel4, hK',
        HB1.out.trans ((hbel.out.mono HB1.out.size).trans ((HB3.out.mono (Nat.le_trans HB1.out.size hbel.out.size)).trans (hbel4.mono (Nat.le_trans HB1.out.size (Nat.le_trans hbel.out.size HB3.out.size)))))⟩
      clear hK' hbel4
      unfold tup
      have hrk := rk_le f n
      have hr2 : rk (more f J) n = rk f n + 1 := rk_more_gt f J HF.out hJ
      rw [hr2]
      have HR2 := hidOf hr2
      clear hr2 HK HB3 HM hbel
      generalize hm : rk f n = m at *
      have HMM := hidOf hm
      clear hm
      go_wp2
      go_loopw [23, 24] (fun bl i wx => ∃ k : Nat, k ≤ J ∧ i = .int .i64 k ∧ bl = .int .i64 (rk f k) ∧ Two w f J n g s1 s2 s3 s5 g' t1 t2 t3 t5 wx) (fun _ i _ => J - (intOf i).toNat)
      case atStart => exact ⟨0, Nat.zero_le _, rfl, rfl, HT.out⟩
      case round =>
        clear HT
        obtain ⟨i, hi, rfl, rfl, hT⟩ := hrel
        have hrl := rk_le f i
        have HT := hidOf hT
        by_cases hiJ : i < J
        · have ca1 := hT.k1.alone i (by omega)
          have ca2 := hT.k2.alone i (by omega)
          rw [more_other f (show i ≠ J by omega), rk_more_le f J (show i ≤ J by omega)] at ca2
          clear hT
          cases hfi : f i with
          | false =>
            have E := hidOf (rk_miss f i hfi)
            rw [hfi, if_neg (by simp)] at ca1 ca2
            clear hfi
            generalize rk f i = r at *
            go_wp2
            go_quiet (fail)
            go_wp2
            go_roundw
            case rel => exact ⟨i + 1, by omega, by go_num, by rw [E.out], two_drewN HT.out _⟩
            case measure => simp [intOf]; omega
          | true =>
            have E := hidOf (rk_hit f i hfi)
            rw [hfi, if_pos rfl] at ca1 ca2
            clear hfi
            generalize rk f i = r at *
            go_wp2
            go_quiet (fail)
            go_wp2
            go_roundw
            case rel => exact ⟨i + 1, by omega, by go_num, by rw [E.out]; go_num, two_drewN HT.out _⟩
            case measure => simp [intOf]; omega
        · obtain rfl : i = J := by omega
          have hrm : rk f i ≤ m := by have := HMM.out; have := rk_mono f (show i ≤ n by omega); omega
          have ca2 := hT.k2.alone i hJ
          rw [more_self, if_pos rfl, rk_more_le f i (Nat.le_refl _)] at ca2
          clear hT hi hiJ
          generalize hr : rk f i = r at *
          have HR := hidOf hr
          clear hr
          go_wp2
          go_loopw [25] (fun x wx => ∃ k : Nat, i + 1 ≤ k ∧ k ≤ n ∧ x = .int .i64 k ∧ Two w f i n g s1 s2 s3 s5 g' t1 t2 t3 t5 wx) (fun x _ => n - (intOf x).toNat)
          case atStart => exact ⟨i + 1, Nat.le_refl _, by omega, by go_num, HT.out⟩
          case round =>
            clear HT
            obtain ⟨k, hk1, hk2, rfl, hT⟩ := hrel
            have HT := hidOf hT
            have hrl2 := rk_le f k
            by_cases hkn : k < n
            · have ca1 := hT.k1.alone k hkn
              have ca3 := hT.k2.alone k hkn
              rw [more_other f (show k ≠ i by omega), rk_more_gt f i HF.out (show i < k by omega)] at ca3
              clear hT
              cases hfk : f k with
              | false =>
                rw [hfk, if_neg (by simp)] at ca1 ca3
                clear hfk
                go_wp2
                go_roundw
                case rel => exact ⟨k + 1, by omega, by omega, by go_num, HT.out⟩
                case measure => simp [intOf]; omega
              | true =>
                rw [hfk, if_pos rfl] at ca1 ca3
                clear hfk
                generalize rk f k = x at *
                have ca4 : wr.cell? ⟨t3, k, none⟩ = some (.int .i64 ((x : Int) + 1 + 1)) := by rw [ca3]; congr 2
                clear ca3
                go_wp2
                go_quiet (fail)
                go_wp2
                go_roundw
                case rel => exact ⟨k + 1, by omega, by omega, by go_num, two_drewN HT.out _⟩
                case measure => simp [intOf]; omega
            · clear hT ca2 hrl2
              go_wp2
              go_loopw [26] (fun x wx => ∃ t : Nat, t ≤ 1 + m ∧ x = .int .i64 t ∧ Two w f i n g s1 s2 s3 s5 g' t1 t2 t3 t5 wx) (fun x _ => 1 + m - (intOf x).toNat)
              case atStart => exact ⟨0, Nat.zero_le _, rfl, HT.out⟩
              case round =>
                clear HT
                obtain ⟨t, ht, rfl, hT⟩ := hrel
                have HT := hidOf hT
                by_cases htm : t < 1 + m
                · by_cases ht0 : t = 0
                  · subst ht0
                    have cs1 := hT.k1.sets 0 (by have := HMM.out; omega)
                    have cs2 := hT.k2.sets 0 (by omega)
                    rw [setAt_zero] at cs1 cs2
                    clear hT
                    go_wp2
                    go_quiet ((go_at_call 10; exact Calls.quiet_of (same_nil _)))
                    go_wp2
                    go_roundw
                    case rel => exact ⟨1, by omega, by go_num, two_drewN HT.out _⟩
                    case measure => simp [intOf] <;> omega
                  · obtain ⟨d, rfl⟩ : ∃ d, t = d + 1 := ⟨t - 1, by omega⟩
                    have cs1 := hT.k1.sets (d + 1) (by have := HMM.out; omega)
                    rw [HMM.out, setAt_one (show d < m by omega)] at cs1
                    have ci1 := hT.k1.ids d (by have := HMM.out; omega)
                    by_cases hdr : r ≤ d
                    · have cs2 := hT.k2.sets (d + 1 + 1) (by have := HR2.out; omega)
                      rw [HR2.out, setAt_one (show d + 1 < m + 1 by omega)] at cs2
                      have ci2 := hT.k2.ids (d + 1) (by have := HR2.out; omega)
                      rw [at_more_ge f i HF.out (show rk f i ≤ d by have := HR.out; omega) (show d < rk f n by have := HMM.out; omega)] at ci2
                      clear hT
                      generalize at' f n d = y at *
                      go_wp2
                      go_quiet ((go_at_call 10; exact Calls.quiet_of (same_one _ _ _ _ _ y (by simp [ci1]) (by simp [ci2]))))
                      go_wp2
                      go_roundw
                      case rel => exact ⟨d + 1 + 1, by omega, by go_num, two_drewN HT.out _⟩
                      case measure => simp [intOf]; omega
                    · have cs2 := hT.k2.sets (d + 1) (by have := HR2.out; omega)
                      rw [HR2.out, setAt_one (show d < m + 1 by omega)] at cs2
                      have ci2 := hT.k2.ids d (by have := HR2.out; omega)
                      rw [at_more_lt f i hJ (show d < rk f i by have := HR.out; omega)] at ci2
                      clear hT
                      generalize at' f n d = y at *
                      go_wp2
                      go_quiet ((go_at_call 10; exact Calls.quiet_of (same_one _ _ _ _ _ y (by simp [ci1]) (by simp [ci2]))))
                      go_wp2
                      go_roundw
                      case rel => exact ⟨d + 1 + 1, by omega, by go_num, two_drewN HT.out _⟩
                      case measure => simp [intOf]; omega
                · have cs2 := hT.k2.sets (r + 1) (by have := HR2.out; omega)
                  rw [HR2.out, setAt_one (show r < m + 1 by omega)] at cs2
                  have ci2 := hT.k2.ids r (by have := HR2.out; omega)
                  rw [← HR.out, at_more_self f i hJ, HR.out] at ci2
                  clear hT
                  go_wp2
                  go_ret
                  exact ⟨rfl, HT.out.below⟩
end Go.Proofs.Qxb6600407a
