/-
  Seat b6600407a: the walk of FnElementsClassesFresh (function 5).
-/
import Derived.Test.Qxb6600407aElems
namespace Go.Proofs.Qxb6600407a.Els
open Go.RowKit

theorem below_drewN {B : Nat} {w wx : World} (h : Below B w wx) (q : Nat) : Below B w (wx.drewN q) := h.trans ⟨rfl, rfl, rfl, Nat.le_refl _, fun _ _ => rfl⟩
theorem elk_name (S : Nat → ByteArray) {n i : Nat} (hi : i < n) : elk S n (i * 2) = .string (S i) := by
  unfold elk; rw [if_pos (by omega), if_pos (by omega), show i * 2 / 2 = i by omega]

theorem st_cell {w : World} {b : Nat} {c : Array Value} {t : TypeId} (h : w.heap[b]? = some (.cells c t (0, 0))) {i : Nat} {v : Value} (hi : c[i]? = some v) : w.cell? ⟨b, i, none⟩ = some v := by
  simp [World.cell?, h, hi]
/-- The policy as the law lays it. -/
theorem pol_new {w : World} {b n : Nat} {a : Option Addr} {S : Nat → ByteArray} (h : Sz w a b n S) (o : Obj) (ho : o = .cells #[.slice a n n, .slice none 0 0, .slice none 0 0, .slice none 0 0, .slice none 0 0, .slice none 0 0, .slice none 0 0, .slice none 0 0, .slice none 0 0] 41) :
    Pol (w.alloc o) w.heap.size b n a S := by
  subst ho
  have hn := Deep.blk_alloc_new w (.cells #[.slice a n n, .slice none 0 0, .slice none 0 0, .slice none 0 0, .slice none 0 0, .slice none 0 0, .slice none 0 0, .slice none 0 0, .slice none 0 0] 41)
  exact ⟨st_cell hn rfl, st_cell hn rfl, st_cell hn rfl, st_cell hn rfl, st_cell hn rfl, sz_below h ((Below.refl _ _).alloc (Nat.le_refl _) _)⟩

/-- The elements of the first answer, whatever their names; all that lay before is as it was. -/
def Mid (w3 : World) (E n : Nat) (wx : World) : Prop := (∃ g, wx.rowIs E 45 (n * 2) g) ∧ w3.heap.size ≤ E ∧ Below w3.heap.size w3 wx
theorem mid_step {w3 wx : World} {E n : Nat} (h : Mid w3 E n wx) (i : Nat) (v : Value) : Mid w3 E n (wx.setCell ⟨E, i, none⟩ v) := by
  obtain ⟨⟨g, hg⟩, h1, h2⟩ := h
  exact ⟨⟨_, hg.set i v⟩, h1, h2.setCell (p := ⟨E, i, none⟩) h1 v⟩

set_option maxRecDepth 100000 in
set_option maxHeartbeats 2000000 in
theorem fresh_walk (a : Option Addr) (n c : Nat) (S : Nat → ByteArray) (s : ByteArray) (hn : n ≤ 9223372036854775807) (w : World) (ha : At w a n S) (hc : a = none → c = 0 ∧ n = 0) :
    Calls Try.prog 5 #[.slice a n c, .string s] w fun e w' => e = .returned (.bool true) ∧ Below w.heap.size w w' := by
  have HA := hidOf ha
  have HC := hidOf hc
  clear ha hc
  have hneq := fun wx => run_neq_slice_nil_any (P := Try.prog) wx 36 45 none 0 0 0 0 Try.underlying36
  go_enter Try.func5, Try.ntmps5
  go_wp2_with fail
  refine (bytes_any a n c S s hn _ (by exact HA.out)).mono ?_
  rintro e w' ⟨r, rfl, hr20, rfl⟩
  cases r with
  | false =>
    clear hr20
    go_wp2
    go_ret
    exact ⟨rfl, Below.refl _ _⟩
  | true =>
    have h20 := hr20 rfl
    clear hr20
    go_wp2_with fail
    refine (sum_any a n c S h20 _ (by exact HA.out)).mono ?_
    rintro e w' ⟨x, rfl, rfl⟩
    by_cases hbig : 1048576 < wrap64 (x + (s.size : Int))
    · go_wp2
      go_ret
      exact ⟨rfl, Below.refl _ _⟩
    go_wp2_with fail
    refine (clone_any a n c S h20 _ (by exact HA.out) HC.out).mono ?_
    rintro e w1 ⟨a1, b1, rfl, hz1, _, hnone1, hb1⟩
    have HZ1 := hidOf hz1
    have HB1 := hidOf hb1
    have HN1 := hidOf hnone1
    clear hz1 hb1 hnone1
    go_wp2_with fail
    refine (clone_any a1 n n S h20 _ (by exact sz_is HZ1.out) (fun h => ⟨HN1.out h, HN1.out h⟩)).mono ?_
    rintro e w2 ⟨a2, b2, rfl, hz2, _, hnone2, hb2⟩
    have HZ2 := hidOf hz2
    have HB2 := hidOf hb2
    clear hz2 hb2 hnone2
    go_wp2_with fail
    obtain ⟨w3, hw3⟩ : ∃ w3, w3 = w2.alloc (.cells #[.slice a2 n n, .slice none 0 0, .slice none 0 0, .slice none 0 0, .slice none 0 0, .slice none 0 0, .slice none 0 0, .slice none 0 0, .slice none 0 0] 41) := ⟨_, rfl⟩
    rw [← hw3]
    have HP : Hid (Pol w3 w2.heap.size b2 n a2 S) := by rw [hw3]; exact pol_new HZ2.out _ rfl
    have hb3 : Below w2.heap.size w2 w3 := by rw [hw3]; exact (Below.refl _ _).alloc (Nat.le_refl _) _
    have HZ : Hid (Sz w3 a1 b1 n S) := sz_below (sz_below HZ1.out HB2.out) hb3
    have HB : Hid (Below w.heap.size w w3) := HB1.out.trans ((HB2.out.mono HB1.out.size).trans (hb3.mono (Nat.le_trans HB1.out.size HB2.out.size)))
    clear hw3 hb3 HZ1 HZ2 HB1 HB2 HN1
    generalize w2.heap.size = P at *
    refine (zzElements_any P b2 n a2 S h20 _ (by exact HP.out)).mono ?_
    rintro e w4 ⟨E, rfl, hrow, hE, hbel4⟩
    have HE := hidOf hE
    have HR := hidOf hrow
    have HB4 := hidOf hbel4
    clear hE hrow hbel4
    go_wp2
    go_loopw [8] (fun i wx => ∃ k : Nat, k ≤ n ∧ i = .int .i64 k ∧ Mid w3 E n wx) (fun i _ => n - (intOf i).toNat)
    case atStart => exact ⟨0, Nat.zero_le _, rfl, ⟨_, HR.out.alloc _⟩, HE.out, HB4.out.alloc HB4.out.size _⟩
    case round =>
      obtain ⟨k, hk, rfl, hM⟩ := hrel
      by_cases hlt : k < n
      · have hnext := hidOf (mid_step hM (k * 2) (.string s))
        obtain ⟨⟨g, hg⟩, _, _⟩ := hM
        have hce := hg.cell (i := k * 2) (by omega)
        have hfe := hg.frozen (k * 2)
        clear hg
        go_wp2
        go_roundw
        case rel => exact ⟨k + 1, by omega, by go_num, hnext.out⟩
        case measure => simp [intOf]; omega
      · have hbel := hM.2.2
        have HBx := hidOf hbel
        have cP := (pol_below HP.out hbel).c0
        clear hM hbel HB4 HR HE
        go_wp2
        go_loopw [9] (fun i wx => ∃ k : Nat, k ≤ n ∧ i = .int .i64 k ∧ Below w3.heap.size w3 wx) (fun i _ => n - (intOf i).toNat)
        case atStart => exact ⟨0, Nat.zero_le _, rfl, HBx.out⟩
        case round =>
          clear HBx cP
          obtain ⟨i, hi, rfl, hbel⟩ := hrel
          have HBx := hidOf hbel
          have hpol := pol_below HP.out hbel
          have hsz := sz_below HZ.out hbel
          by_cases hin : i < n
          · have cP := hpol.c0
            have had2 := hpol.sz.adr (by omega)
            have had1 := hsz.adr (by omega)
            have c2 := hpol.sz.cell i hin
            have c1 := hsz.cell i hin
            subst had1 had2
            clear hpol hsz hbel
            generalize S i = t at *
            go_wp2
            go_quiet (fail)
            go_wp2
            go_roundw
            case rel => exact ⟨i + 1, by omega, by go_num, below_drewN HBx.out _⟩
            case measure => simp [intOf]; omega
          · have HPx := hidOf hpol
            clear hpol hsz hbel
            go_wp2_with fail
            refine (zzElements_any P b2 n a2 S h20 _ (by exact HPx.out)).mono ?_
            rintro e w5 ⟨F, rfl, hrow, hF, hbel5⟩
            have HR : Hid (∀ o, (w5.alloc o).rowIs F 45 (n * 2) (elk S n)) := fun o => hrow.alloc o
            have HB5 : Hid (∀ o, Below w3.heap.size w3 (w5.alloc o)) := fun o => (HBx.out.trans (hbel5.mono HBx.out.size)).alloc (Nat.le_trans HBx.out.size hbel5.size) o
            clear hrow hF hbel5
            go_wp2
            go_loopw [12] (fun i wx => ∃ k : Nat, k ≤ n ∧ i = .int .i64 k ∧ wx.rowIs F 45 (n * 2) (elk S n) ∧ Below w3.heap.size w3 wx) (fun i _ => n - (intOf i).toNat)
            case atStart => exact ⟨0, Nat.zero_le _, rfl, HR.out _, HB5.out _⟩
            case round =>
              clear HR HB5 HBx
              obtain ⟨j, hj, rfl, hrow, hbel⟩ := hrel
              have HR := hidOf hrow
              have HBx := hidOf hbel
              by_cases hjn : j < n
              · have hsz := sz_below HZ.out hbel
                have had1 := hsz.adr (by omega)
                have c1 := hsz.cell j hjn
                have ce := hrow.cell (i := j * 2) (by omega)
                rw [elk_name S hjn] at ce
                subst had1
                clear hsz hbel hrow
                generalize S j = t at *
                go_wp2
                go_quiet (fail)
                go_wp2
                go_roundw
                case rel => exact ⟨j + 1, by omega, by go_num, HR.out, below_drewN HBx.out _⟩
                case measure => simp [intOf]; omega
              · go_wp2
                go_ret
                exact ⟨rfl, HB.out.trans (HBx.out.mono HB.out.size)⟩
end Go.Proofs.Qxb6600407a.Els
