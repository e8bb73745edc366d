/-
  Seat b6000356a: zzb1FoldByte (function 8) and the walk of FnAsciiEqualFoldMatchesModel (function 3).
-/
import Derived.Test.Qxb6000356aFold
import Derived.Laws.BitsAllLaws
namespace Go.Proofs.Qxb6000356a.Fold
open Go.RowKit

/-! ### Plain: the bit 0x20 -/
def or32 (x : Int) : Int := if (x / 32) % 2 = 0 then x + 32 else x
theorem or32_nat : ∀ a : Fin 256, (a.val ||| 32) = if (a.val / 32) % 2 = 0 then a.val + 32 else a.val := by decide +kernel
theorem or32_eq (x : Int) (h0 : 0 ≤ x) (h1 : x ≤ 255) : bits .or .u8 x 32 = or32 x := by
  obtain ⟨a, rfl⟩ := Int.eq_ofNat_of_zero_le h0
  have ha : a < 256 := by omega
  have h := u8_or_nat a 32 ha (by omega)
  have h2 := or32_nat ⟨a, ha⟩
  simp only at h2
  have e : ((32 : Nat) : Int) = 32 := rfl
  rw [e] at h
  rw [h, h2]
  unfold or32
  split <;> split <;> omega
theorem or32_bd (x : Int) (h0 : 0 ≤ x) (h1 : x ≤ 255) : 0 ≤ or32 x ∧ or32 x ≤ 255 := by unfold or32; split <;> omega
theorem low_of_or (x y : Int) (hx : 0 ≤ x ∧ x ≤ 255) (hy : 0 ≤ y ∧ y ≤ 255) (hne : ¬ x = y) : low x = low y ↔ or32 x = or32 y ∧ 97 ≤ or32 x ∧ or32 x ≤ 122 := by
  unfold low or32
  split <;> split <;> split <;> split <;> omega

set_option maxHeartbeats 400000 in
theorem foldByte_any (x y : Int) (hx0 : 0 ≤ x) (hx1 : x ≤ 255) (hy0 : 0 ≤ y) (hy1 : y ≤ 255) (w : World) :
    Calls Try.prog 8 #[.int .u8 x, .int .u8 y] w fun e w' => e = .returned (.bool (decide (low x = low y))) ∧ w' = w := by
  by_cases hne : x = y
  · subst hne
    rw [decide_eq_true rfl]
    go_enter Try.func8, Try.ntmps8
    go_wp2
    go_ret
    exact ⟨rfl, rfl⟩
  have hb : (x == y) = false := by simp [hne]
  have hX := or32_eq x hx0 hx1
  have hY := or32_eq y hy0 hy1
  have hl := low_of_or x y ⟨hx0, hx1⟩ ⟨hy0, hy1⟩ hne
  have HL := hidOf hl
  clear hl
  generalize or32 x = X at *
  generalize or32 y = Y at *
  by_cases hXY : X = Y
  · subst hXY
    by_cases h97 : 97 ≤ X
    · by_cases h122 : X ≤ 122
      · rw [decide_eq_true (HL.out.2 ⟨rfl, h97, h122⟩)]
        go_enter Try.func8, Try.ntmps8
        go_wp2
        go_ret
        exact ⟨rfl, rfl⟩
      · rw [decide_eq_false (fun h => h122 (HL.out.1 h).2.2)]
        go_enter Try.func8, Try.ntmps8
        go_wp2
        go_ret
        exact ⟨rfl, rfl⟩
    · rw [decide_eq_false (fun h => h97 (HL.out.1 h).2.1)]
      go_enter Try.func8, Try.ntmps8
      go_wp2
      go_ret
      exact ⟨rfl, rfl⟩
  · have hn : (X != Y) = true := by simpa using hXY
    rw [decide_eq_false (fun h => hXY (HL.out.1 h).1)]
    go_enter Try.func8, Try.ntmps8
    go_wp2
    go_ret
    exact ⟨rfl, rfl⟩
theorem is_true' {r : Bool} {p : Prop} (h : Is r p) (hp : p) : r = true := h.2 hp
theorem is_false' {r : Bool} {p : Prop} (h : Is r p) (hp : ¬ p) : r = false := by
  cases r with
  | false => rfl
  | true => exact absurd (h.1 rfl) hp
theorem bel_drewN (w : World) (q : Nat) : Below w.heap.size w (w.drewN q) := ⟨rfl, rfl, rfl, Nat.le_refl _, fun _ _ => rfl⟩

set_option maxRecDepth 100000 in
set_option maxHeartbeats 1000000 in
theorem match_walk (a : Option Addr) (n c : Nat) (x : Nat → Int) (s : ByteArray) (hn : n ≤ 9223372036854775807) (hs : s.size ≤ 9223372036854775807) (hx : ∀ i, i < n → 0 ≤ x i ∧ x i ≤ 255) (w : World) (ha : Row w a n x) (hc : a = none → c = 0 ∧ n = 0) :
    Calls Try.prog 3 #[.slice a n c, .string s] w fun e w' => e = .returned (.bool true) ∧ Below w.heap.size w w' := by
  have HA := hidOf ha
  have HC := hidOf hc
  have HX := hidOf hx
  clear ha hc hx
  go_enter Try.func3, Try.ntmps3
  go_wp2_with fail
  refine (bytes6_any a n c s hn hs _).mono ?_
  rintro e w' ⟨r, rfl, hr, rfl⟩
  cases r with
  | false =>
    clear hr
    go_wp2
    go_ret
    exact ⟨rfl, Below.refl _ _⟩
  | true =>
    have h20 := hr rfl
    clear hr
    go_wp2_with fail
    refine (clone_any a n c x (by omega) _ (by exact HA.out) HC.out).mono ?_
    rintro e w1 ⟨a1, b1, rfl, hz, _, hb1⟩
    have HZ := hidOf hz
    have HB1 := hidOf hb1
    clear hz hb1
    by_cases hne : n = s.size
    case neg =>
      have hb : ((n : Int) == (s.size : Int)) = false := by simp; omega
      have HN : Hid (¬ Same n x s.size (byteAt s)) := fun h => hne h.1
      clear hne
      go_wp2_with fail
      refine (zz_any a1 n n x s (by omega) HX.out _ (by exact rz_row HZ.out)).mono ?_
      rintro e w2 ⟨r, rfl, hI, q, rfl⟩
      obtain rfl := is_false' hI HN.out
      clear hI
      go_wp2
      go_ret
      exact ⟨rfl, HB1.out.trans ((bel_drewN w1 q).mono HB1.out.size)⟩
    have hb : ((n : Int) == (s.size : Int)) = true := by simp; omega
    have HE := hidOf hne
    have hle : n ≤ s.size := by omega
    have hge : s.size ≤ n := by omega
    clear hne
    go_wp2
    go_loopw [5, 6] (fun wt i wx => ∃ k : Nat, k ≤ n ∧ i = .int .i64 k ∧ wt = .bool true ∧ Agree k x (byteAt s) ∧ ∃ q, wx = w1.drewN q) (fun _ i _ => n - (intOf i).toNat)
    case atStart => exact ⟨0, Nat.zero_le _, rfl, rfl, fun i hi => absurd hi (by omega), 0, rfl⟩
    case round =>
      obtain ⟨k, hk, rfl, rfl, hag, q, hq⟩ := hrel
      have HG := hidOf hag
      have HQ := hidOf hq
      have HZr : Hid (∀ q', Rz (wr.drewN q') a1 b1 n x) := fun q' => rz_below HZ.out (by rw [hq, drewN_add]; exact bel_drewN w1 _)
      have HBr : Hid (∀ q', Below w.heap.size w (wr.drewN q')) := fun q' => by rw [hq, drewN_add]; exact HB1.out.trans ((bel_drewN w1 _).mono HB1.out.size)
      by_cases hlt : k < n
      · have had := HZ.out.adr (by omega)
        have hck := (HZr.out 0).cell k hlt
        rw [World.drewN_zero] at hck
        have hxk := HX.out k hlt
        have hks : k < s.size := by omega
        have hby := byteAt_eq s k hks
        subst had
        clear hag hq
        by_cases he : low (x k) = low (byteAt s k)
        · have hd : decide (low (x k) = low (s[k].toNat : Int)) = true := by rw [← hby]; simpa using he
          have HN : Hid (Agree (k + 1) x (byteAt s)) := fun i hi => by
            by_cases e : i = k
            · rw [e]; exact he
            · exact HG.out i (by omega)
          clear he hby
          go_wp2
          go_quiet ((go_at_call 8; exact Calls.quiet_of_same (foldByte_any _ _ (by omega) (by omega) (by omega) (byte_le _) _)))
          go_wp2
          go_roundw
          case rel => exact ⟨k + 1, by omega, by go_num, rfl, HN.out, _, by rw [HQ.out]; exact drewN_add w1 q _⟩
          case measure => simp [intOf]; omega
        · have hd : decide (low (x k) = low (s[k].toNat : Int)) = false := by rw [← hby]; simpa using he
          have HN : Hid (¬ Same n x s.size (byteAt s)) := fun h => he (h.2 k hlt)
          clear he hby
          go_wp2
          go_quiet ((go_at_call 8; exact Calls.quiet_of_same (foldByte_any _ _ (by omega) (by omega) (by omega) (byte_le _) _)))
          go_wp2_with fail
          refine (zz_any _ n n x s (by omega) HX.out _ (by exact rz_row (HZr.out _))).mono ?_
          rintro e w2 ⟨r, rfl, hI, q2, rfl⟩
          obtain rfl := is_false' hI HN.out
          clear hI
          go_wp2
          go_ret
          exact ⟨rfl, by simpa using HBr.out _⟩
      · have HN : Hid (Same n x s.size (byteAt s)) := ⟨HE.out, fun i hi => hag i (by omega)⟩
        clear hag hq
        go_wp2_with fail
        refine (zz_any a1 n n x s (by omega) HX.out _ (by exact rz_row (HZr.out 0))).mono ?_
        rintro e w2 ⟨r, rfl, hI, q2, rfl⟩
        obtain rfl := is_true' hI HN.out
        clear hI
        go_wp2
        go_ret
        exact ⟨rfl, HBr.out _⟩
end Go.Proofs.Qxb6000356a.Fold
