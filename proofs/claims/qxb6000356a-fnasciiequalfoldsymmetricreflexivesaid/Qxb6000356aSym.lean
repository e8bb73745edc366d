/-
  Seat b6000356a: the walk of FnAsciiEqualFoldSymmetricReflexive (function 4).
-/
import Derived.Test.Qxb6000356aFold
import Derived.Test.Qxb6000356aRegion
namespace Go.Proofs.Qxb6000356a.Fold
open Go.RowKit RegInv

/-! ### Conversions -/
def listOf (n : Nat) (x : Nat → Int) : List UInt8 := (List.range n).map fun i => UInt8.ofNat (x i).toNat
/-- The string of n bytes x. -/
def strOf (n : Nat) (x : Nat → Int) : ByteArray := ⟨(listOf n x).toArray⟩
theorem listOf_length (n : Nat) (x : Nat → Int) : (listOf n x).length = n := by simp [listOf]
theorem strOf_size (n : Nat) (x : Nat → Int) : (strOf n x).size = n := by
  show (listOf n x).toArray.size = n
  simp [listOf_length]
theorem byte_of (z : Int) (h : 0 ≤ z ∧ z ≤ 255) : ((UInt8.ofNat z.toNat).toNat : Int) = z := by
  rw [UInt8.toNat_ofNat']
  omega
theorem listOf_at (n : Nat) (x : Nat → Int) (i : Nat) (hi : i < n) : (listOf n x)[i]? = some (UInt8.ofNat (x i).toNat) := by simp [listOf, hi]
theorem byteAt_strOf (n : Nat) (x : Nat → Int) (hx : ∀ i, i < n → 0 ≤ x i ∧ x i ≤ 255) (i : Nat) (hi : i < n) : byteAt (strOf n x) i = x i := by
  show (((listOf n x).toArray.toList[i]?.getD 0).toNat : Int) = x i
  rw [List.toList_toArray, listOf_at n x i hi]
  exact byte_of _ (hx i hi)

theorem conv_str {w : World} {a : Option Addr} {b n : Nat} {x : Nat → Int} (h : Rz w a b n x) (hx : ∀ i, i < n → 0 ≤ x i ∧ x i ≤ 255) (ha : a = none ∧ n = 0 ∨ a = some ⟨b, 0, none⟩) :
    (convert 22 9 (.slice a n n)).run Try.prog w = .ok (.string (strOf n x)) w := by
  rcases ha with ⟨rfl, rfl⟩ | rfl
  · rw [run_convert_bytes_string w 22 9 5 none 0 0 Try.underlying22 Try.underlying5 Try.underlying9]
    rfl
  · have hl := listOf_length n x
    have := run_convert_bytes_back (P := Try.prog) w 22 9 5 ⟨b, 0, none⟩ n (listOf n x) Try.underlying22 Try.underlying5 Try.underlying9 (fun j hj => by
      have hj' : j < n := by omega
      rw [addr_add, Nat.zero_add, h.cell j hj']
      have e : (listOf n x)[j] = UInt8.ofNat (x j).toNat := by
        have := listOf_at n x j hj'
        rw [List.getElem?_eq_getElem hj] at this
        exact Option.some.inj this
      rw [e, byte_of _ (hx j hj')])
    rw [hl] at this
    exact this

/-- '[]byte(s)': a row of its own, the string's bytes. -/
theorem conv_bytes (w : World) (s : ByteArray) : ∃ (c : Nat) (o : Obj), (convert 9 22 (.string s)).run Try.prog w = .ok (.slice (some ⟨w.heap.size, 0, none⟩) s.size c) (w.drew.alloc o) ∧ Rz (w.drew.alloc o) (some ⟨w.heap.size, 0, none⟩) w.heap.size s.size (byteAt s) := by
  refine ⟨_, _, run_bytes_of_string (P := Try.prog) w 9 22 5 s Try.underlying9 Try.underlying22 Try.underlying5, ⟨fun _ => rfl, fun i hi => ?_⟩⟩
  have hb : (w.drew.alloc (.cells (bytesRow s (grownCap w s.size 0 5)) 5 ((bytesRow s (grownCap w s.size 0 5)).size, (bytesRow s (grownCap w s.size 0 5)).size + 1))).heap[w.heap.size]? = some (.cells (bytesRow s (grownCap w s.size 0 5)) 5 ((bytesRow s (grownCap w s.size 0 5)).size, (bytesRow s (grownCap w s.size 0 5)).size + 1)) := by
    show (w.heap.push _)[w.heap.size]? = _
    simp
  have hi' : i < s.data.size := hi
  rw [byteAt_eq s i hi]
  have e : (w.drew.alloc (.cells (bytesRow s (grownCap w s.size 0 5)) 5 ((bytesRow s (grownCap w s.size 0 5)).size, (bytesRow s (grownCap w s.size 0 5)).size + 1))).cell? ⟨w.heap.size, i, none⟩ = (bytesRow s (grownCap w s.size 0 5))[i]? := by
    unfold World.cell?
    rw [hb]
    rfl
  rw [e]
  unfold bytesRow
  rw [Array.getElem?_append_left (by simpa using hi'), Array.getElem?_map, Array.getElem?_eq_getElem hi']
  rfl
/-! ### The plain law -/
theorem same_own {n : Nat} {x : Nat → Int} (hx : ∀ i, i < n → 0 ≤ x i ∧ x i ≤ 255) : Same n x (strOf n x).size (byteAt (strOf n x)) :=
  ⟨(strOf_size n x).symm, fun i hi => by rw [byteAt_strOf n x hx i hi]⟩
theorem same_turn {n : Nat} {x : Nat → Int} {s : ByteArray} (hx : ∀ i, i < n → 0 ≤ x i ∧ x i ≤ 255) : Same s.size (byteAt s) (strOf n x).size (byteAt (strOf n x)) ↔ Same n x s.size (byteAt s) := by
  rw [strOf_size, same_comm]
  constructor
  · rintro ⟨h1, h2⟩; exact ⟨h1, fun i hi => by rw [← byteAt_strOf n x hx i hi]; exact h2 i hi⟩
  · rintro ⟨h1, h2⟩; exact ⟨h1, fun i hi => by rw [byteAt_strOf n x hx i hi]; exact h2 i hi⟩
theorem is_true {r : Bool} {p : Prop} (h : Is r p) (hp : p) : r = true := h.2 hp

/-! ### The last statement: two calls, two conversions, in whatever order Go leaves open -/
section
variable (W0 : World) (a1 : Option Addr) (b1 n : Nat) (x : Nat → Int) (s : ByteArray)
/-- What operation k has left, in the world w. -/
def Fact : Nat → Value → World → Prop
  | 0, v, _ => v = .slice a1 n n
  | 1, v, _ => v = .string s
  | 2, v, _ => ∃ r, v = .bool r ∧ Is r (Same n x s.size (byteAt s))
  | 3, v, _ => v = .string s
  | 4, v, w => ∃ g c, v = .slice (some ⟨g, 0, none⟩) s.size c ∧ Rz w (some ⟨g, 0, none⟩) g s.size (byteAt s)
  | 5, v, _ => v = .slice a1 n n
  | 6, v, _ => v = .string (strOf n x)
  | 7, v, _ => ∃ r, v = .bool r ∧ Is r (Same n x s.size (byteAt s))
  | _, v, _ => v = .bool true
theorem fact_below {k : Nat} {v : Value} {w w' : World} (hb : Below w.heap.size w w') (h : Fact a1 n x s k v w) : Fact a1 n x s k v w' := by
  match k, h with
  | 0, h => exact h
  | 1, h => exact h
  | 2, h => exact h
  | 3, h => exact h
  | 4, ⟨g, c, h1, h2⟩ => exact ⟨g, c, h1, rz_below h2 hb⟩
  | 5, h => exact h
  | 6, h => exact h
  | 7, h => exact h
  | _ + 8, h => exact h
structure Inv14 (L : Nat → Bool) (u : Nat → Value) (w : World) : Prop where
  fact : ∀ k, L k = true → Fact a1 n x s k (u k) w
  row : Rz w a1 b1 n x
  below : Below W0.heap.size W0 w
end
theorem inv_step {W0 : World} {a1 : Option Addr} {b1 n : Nat} {x : Nat → Int} {s : ByteArray} {L : Nat → Bool} {u : Nat → Value} {w w' : World} {i : Nat} {v : Value} (h : Inv14 W0 a1 b1 n x s L u w) (hb : Below w.heap.size w w') (hf : Fact a1 n x s i v w') :
    Inv14 W0 a1 b1 n x s (updL L i) (updV u i v) w' := by
  refine ⟨fun k hk => ?_, rz_below h.row hb, h.below.trans (hb.mono h.below.size)⟩
  by_cases e : k = i
  · subst e; rw [updV_self]; exact hf
  · have hL : L k = true := by simpa [updL, e] using hk
    rw [show updV u i v k = u k by simp [updV, e]]
    exact fact_below a1 n x s hb (h.fact k hL)
def sl14 (t : Nat) : Option Nat := if t = 4 then some 9 else if 33 ≤ t ∧ t ≤ 41 then some (t - 33) else none
def ds14 (k : Nat) : Nat := if k = 9 then 4 else k + 33
theorem sl14_ds (t k : Nat) (h : sl14 t = some k) : t = ds14 k := by
  unfold sl14 at h; unfold ds14
  split at h
  · cases h; simp; assumption
  · split at h
    · cases h; rw [if_neg (by omega)]; omega
    · cases h
theorem sl14_lt {t k : Nat} (h : sl14 t = some k) : t < 42 := by
  unfold sl14 at h
  split at h
  · omega
  · split at h
    · omega
    · cases h
theorem below_drewN (w : World) (q : Nat) : Below w.heap.size w (w.drewN q) := ⟨rfl, rfl, rfl, Nat.le_refl _, fun _ _ => rfl⟩

set_option maxRecDepth 100000 in
set_option maxHeartbeats 1000000 in
theorem sym_walk (a : Option Addr) (n c : Nat) (x : Nat → Int) (s : ByteArray) (hn : n ≤ 9223372036854775807) (hs : s.size ≤ 9223372036854775807) (hx : ∀ i, i < n → 0 ≤ x i ∧ x i ≤ 255) (w : World) (ha : Row w a n x) (hc : a = none → c = 0 ∧ n = 0) :
    Calls Try.prog 4 #[.slice a n c, .string s] w fun e w' => e = .returned (.bool true) ∧ Below w.heap.size w w' := by
  have HA := hidOf ha
  have HC := hidOf hc
  have HX := hidOf hx
  clear ha hc hx
  go_enter Try.func4, Try.ntmps4
  go_wp2_with fail
  refine (bytes10_any a n c s hn hs _).mono ?_
  rintro e w' ⟨r, rfl, hr, rfl⟩
  cases r with
  | false =>
    clear hr
    go_wp2
    go_ret
    exact ⟨rfl, Below.refl _ _⟩
  | true =>
    have h20 := hr rfl
    clear hr
    go_wp2_with fail
    refine (clone_any a n c x (by omega) _ (by exact HA.out) HC.out).mono ?_
    rintro e w1 ⟨a1, b1, rfl, hz, ho, hb1⟩
    have HZ := hidOf hz
    have HO := hidOf ho
    have HB1 := hidOf hb1
    have hcv := conv_str hz HX.out ho
    clear hz ho hb1
    go_wp2_with fail
    refine (zz_any a1 n n x (strOf n x) (by omega) HX.out _ (by exact rz_row HZ.out)).mono ?_
    rintro e w2 ⟨r, rfl, hI, q, rfl⟩
    obtain rfl := is_true hI (same_own HX.out)
    obtain ⟨c2, o2, hcb, hz2⟩ := conv_bytes (w1.drewN q) s
    have HZ2 := hidOf hz2
    clear hI hcv hz2
    go_wp2_with fail
    obtain ⟨W2, hW2⟩ : ∃ W, W = (w1.drewN (q + 1)).alloc o2 := ⟨_, rfl⟩
    rw [← hW2]
    have HR2 : Hid (Rz W2 (some ⟨w1.heap.size, 0, none⟩) w1.heap.size s.size (byteAt s)) := by rw [hW2]; exact HZ2.out
    have hb2 : Below w1.heap.size w1 W2 := by rw [hW2]; exact (below_drewN w1 (q + 1)).alloc (Nat.le_refl _) _
    have HR1 : Hid (Rz W2 a1 b1 n x) := rz_below HZ.out hb2
    have HB2 : Hid (Below w.heap.size w W2) := HB1.out.trans (hb2.mono HB1.out.size)
    clear hW2 hb2 hcb HZ2 HZ HB1
    generalize w1.heap.size = g1 at *
    refine (zz_any _ s.size c2 (byteAt s) s (by omega) (fun i _ => byteAt_bd s i) _ (by exact rz_row HR2.out)).mono ?_
    rintro e w3 ⟨r, rfl, hI, q3, rfl⟩
    obtain rfl := is_true hI (same_refl _ _)
    clear hI HR2
    go_wp2
    refine wp_region_inv (by kernel_rfl) sl14 ds14 (Inv14 (W2.drewN q3) a1 b1 n x s) sl14_ds (fun t k h => sl14_lt h) (of_chk (by kernel_rfl)) (fun u => ⟨(fun _ h => by cases h), rz_below HR1.out (below_drewN W2 (q3 + 1)), (Below.refl _ _).drew⟩) ?_ ?_
    · intro i hi'
      have hi : i < 10 := hi'
      clear hi'
      rcases (show i = 0 ∨ i = 1 ∨ i = 2 ∨ i = 3 ∨ i = 4 ∨ i = 5 ∨ i = 6 ∨ i = 7 ∨ i = 8 ∨ i = 9 by omega) with
        rfl | rfl | rfl | rfl | rfl | rfl | rfl | rfl | rfl | rfl
      · -- operation 0
        intro a' L u w' o K hit miss hJ ho hL haf hK
        obtain rfl := Option.some.inj ho
        have e : a'.eval (.tmp 0) = .slice a1 n n := miss 0 rfl
        exact wpOp_run ho rfl (v := .slice a1 n n) (w' := w') (by simp [execOp, e]) (hK _ _ (inv_step hJ (Below.refl _ _) rfl))
      · -- operation 1
        intro a' L u w' o K hit miss hJ ho hL haf hK
        obtain rfl := Option.some.inj ho
        have e : a'.eval (.tmp 1) = .string s := miss 1 rfl
        exact wpOp_run ho rfl (v := .string s) (w' := w') (by simp [execOp, e]) (hK _ _ (inv_step hJ (Below.refl _ _) rfl))
      · -- operation 2
        intro a' L u w' o K hit miss hJ ho hL haf hK
        obtain rfl := Option.some.inj ho
        have h0 := haf { on := 0, ground := .data } (by simp) rfl
        have f0 := hJ.fact 0 h0
        have e0 : a'.eval (.tmp 33) = u 0 := hit 33 0 rfl
        have h1 := haf { on := 1, ground := .data } (by simp) rfl
        have f1 := hJ.fact 1 h1
        have e1 : a'.eval (.tmp 34) = u 1 := hit 34 1 rfl
        rw [show u 0 = .slice a1 n n from f0] at e0
        rw [show u 1 = .string s from f1] at e1
        refine wpOp_call ho rfl (f := 9) (args := #[.slice a1 n n, .string s]) (w' := w') (by have ef : a'.eval (.func 9) = .func (.func 9) #[] #[] := rfl; revert e0 e1 ef; generalize a'.eval = ρ; intro e0 e1 ef; simp [execOp, e0, e1, ef, go_sem]) (zz_any a1 n n x s (by omega) HX.out w' (rz_row hJ.row)) ?_
        rintro e w'' ⟨r, rfl, hI, q, rfl⟩
        exact ⟨_, rfl, hK _ _ (inv_step hJ (below_drewN _ q) ⟨r, rfl, hI⟩)⟩
      · -- operation 3
        intro a' L u w' o K hit miss hJ ho hL haf hK
        obtain rfl := Option.some.inj ho
        have e : a'.eval (.tmp 1) = .string s := miss 1 rfl
        exact wpOp_run ho rfl (v := .string s) (w' := w') (by simp [execOp, e]) (hK _ _ (inv_step hJ (Below.refl _ _) rfl))
      · -- operation 4
        intro a' L u w' o K hit miss hJ ho hL haf hK
        obtain rfl := Option.some.inj ho
        have h3 := haf { on := 3, ground := .data } (by simp) rfl
        have f3 := hJ.fact 3 h3
        have e3 : a'.eval (.tmp 36) = u 3 := hit 36 3 rfl
        rw [show u 3 = .string s from f3] at e3
        obtain ⟨c, ob, hrun, hz⟩ := conv_bytes w' s
        exact wpOp_run ho rfl (by simp [execOp, e3, hrun]) (hK _ _ (inv_step hJ ((Below.refl _ w').drew.alloc (Nat.le_refl _) ob) ⟨w'.heap.size, c, rfl, hz⟩))
      · -- operation 5
        intro a' L u w' o K hit miss hJ ho hL haf hK
        obtain rfl := Option.some.inj ho
        have e : a'.eval (.tmp 0) = .slice a1 n n := miss 0 rfl
        exact wpOp_run ho rfl (v := .slice a1 n n) (w' := w') (by simp [execOp, e]) (hK _ _ (inv_step hJ (Below.refl _ _) rfl))
      · -- operation 6
        intro a' L u w' o K hit miss hJ ho hL haf hK
        obtain rfl := Option.some.inj ho
        have h5 := haf { on := 5, ground := .data } (by simp) rfl
        have f5 := hJ.fact 5 h5
        have e5 : a'.eval (.tmp 38) = u 5 := hit 38 5 rfl
        rw [show u 5 = .slice a1 n n from f5] at e5
        exact wpOp_run ho rfl (v := .string (strOf n x)) (w' := w') (by simp [execOp, e5, conv_str hJ.row HX.out HO.out]) (hK _ _ (inv_step hJ (Below.refl _ _) rfl))
      · -- operation 7
        intro a' L u w' o K hit miss hJ ho hL haf hK
        obtain rfl := Option.some.inj ho
        have h4 := haf { on := 4, ground := .data } (by simp) rfl
        have f4 := hJ.fact 4 h4
        have e4 : a'.eval (.tmp 37) = u 4 := hit 37 4 rfl
        have h6 := haf { on := 6, ground := .data } (by simp) rfl
        have f6 := hJ.fact 6 h6
        have e6 : a'.eval (.tmp 39) = u 6 := hit 39 6 rfl
        obtain ⟨g, c, hu4, hz⟩ := f4
        rw [hu4] at e4
        rw [show u 6 = .string (strOf n x) from f6] at e6
        refine wpOp_call ho rfl (f := 9) (args := #[.slice (some ⟨g, 0, none⟩) s.size c, .string (strOf n x)]) (w' := w') (by have ef : a'.eval (.func 9) = .func (.func 9) #[] #[] := rfl; revert e4 e6 ef; generalize a'.eval = ρ; intro e4 e6 ef; simp [execOp, e4, e6, ef, go_sem]) (zz_any _ s.size c (byteAt s) (strOf n x) (by omega) (fun i _ => byteAt_bd s i) w' (rz_row hz)) ?_
        rintro e w'' ⟨r, rfl, hI, q, rfl⟩
        exact ⟨_, rfl, hK _ _ (inv_step hJ (below_drewN _ q) ⟨r, rfl, hI.trans (same_turn HX.out)⟩)⟩
      · -- operation 8
        intro a' L u w' o K hit miss hJ ho hL haf hK
        obtain rfl := Option.some.inj ho
        have h2 := haf { on := 2, ground := .data } (by simp) rfl
        have f2 := hJ.fact 2 h2
        have e2 : a'.eval (.tmp 35) = u 2 := hit 35 2 rfl
        have h7 := haf { on := 7, ground := .data } (by simp) rfl
        have f7 := hJ.fact 7 h7
        have e7 : a'.eval (.tmp 40) = u 7 := hit 40 7 rfl
        obtain ⟨r, hu2, hI⟩ := f2
        obtain ⟨r', hu7, hI'⟩ := f7
        rw [hu2] at e2
        rw [hu7] at e7
        have er : r = r' := Bool.eq_iff_iff.2 (hI.trans hI'.symm)
        exact wpOp_run ho rfl (v := .bool true) (w' := w') (by revert e2 e7; generalize a'.eval = ρ; intro e2 e7; simp [execOp, e2, e7, er, go_sem]) (hK _ _ (inv_step hJ (Below.refl _ _) rfl))
      · -- operation 9
        intro a' L u w' o K hit miss hJ ho hL haf hK
        obtain rfl := Option.some.inj ho
        have h8 := haf { on := 8, ground := .data } (by simp) rfl
        have f8 := hJ.fact 8 h8
        have e8 : a'.eval (.tmp 41) = u 8 := hit 41 8 rfl
        rw [show u 8 = .bool true from f8] at e8
        exact wpOp_run ho rfl (v := .bool true) (w' := w') (by simp [execOp, e8]) (hK _ _ (inv_step hJ (Below.refl _ _) rfl))
    · intro L u w5 hall hJ
      have hu : u 9 = .bool true := hJ.fact 9 (hall 9 (by decide))
      have HBL : Hid (Below w.heap.size w w5) := HB2.out.trans ((below_drewN W2 q3).trans hJ.below |>.mono HB2.out.size)
      simp [frameOf, over, sl14]
      rw [hu]
      clear hJ hall
      go_wp2
      go_ret
      exact ⟨rfl, HBL.out⟩
end Go.Proofs.Qxb6000356a.Fold
