/-
  Seat b6000356a: lower (function 14), asciiEqualFold (13), ZZasciiEqualFold (9): what they compute, for a slice of bytes and a string.
-/
import Derived.Test.Qxb6000356aRows
import Derived.WalkKit
import Derived.WalkSpells
import Derived.WalkLawsBesides
import Derived.Deep.OwnRows
import Derived.Deep.QuietTactic
import Derived.BigQuiet
namespace Go.Proofs.Qxb6000356a.Fold
open Go.RowKit

theorem addr_add (b o i : Nat) : (⟨b, o, none⟩ : Addr).add i = ⟨b, o + i, none⟩ := by unfold Addr.add; split <;> simp_all
theorem hidOf {p : Prop} (h : p) : Hid p := h

/-! ### Plain: bytes as numbers -/
def low (c : Int) : Int := if 65 ≤ c ∧ c ≤ 90 then c + 32 else c
/-- Byte i of a string, as a number (0 beyond its end). -/
def byteAt (s : ByteArray) (i : Nat) : Int := ((s.data.toList[i]?.getD 0).toNat : Int)
theorem byteAt_eq (s : ByteArray) (i : Nat) (h : i < s.size) : byteAt s i = (s[i].toNat : Int) := by
  unfold byteAt
  rw [List.getElem?_eq_getElem (by simpa using h)]
  rfl
theorem byteAt_bd (s : ByteArray) (i : Nat) : 0 ≤ byteAt s i ∧ byteAt s i ≤ 255 := by
  unfold byteAt
  have := (s.data.toList[i]?.getD 0).toNat_lt
  omega

/-- The first n places agree up to case. -/
def Agree (n : Nat) (x y : Nat → Int) : Prop := ∀ i, i < n → low (x i) = low (y i)
/-- What asciiEqualFold answers: n bytes x against m bytes y. -/
def Same (n : Nat) (x : Nat → Int) (m : Nat) (y : Nat → Int) : Prop := n = m ∧ Agree n x y
theorem same_comm {n : Nat} {x : Nat → Int} {m : Nat} {y : Nat → Int} : Same n x m y ↔ Same m y n x := by
  constructor
  · rintro ⟨rfl, h⟩; exact ⟨rfl, fun i hi => (h i hi).symm⟩
  · rintro ⟨rfl, h⟩; exact ⟨rfl, fun i hi => (h i hi).symm⟩
theorem same_refl (n : Nat) (x : Nat → Int) : Same n x n x := ⟨rfl, fun _ _ => rfl⟩
/-- r is the answer. -/
def Is (r : Bool) (p : Prop) : Prop := r = true ↔ p

/-- A slice of n bytes: where there is one, the slice begins at a plain address. -/
def Row (w : World) (a : Option Addr) (n : Nat) (x : Nat → Int) : Prop :=
  0 < n → ∃ b o, a = some ⟨b, o, none⟩ ∧ ∀ i, i < n → w.cell? ⟨b, o + i, none⟩ = some (.int .u8 (x i))

set_option maxHeartbeats 400000 in
theorem lower_any (c : Int) (h0 : 0 ≤ c) (h1 : c ≤ 255) (w : World) : Calls Try.prog 14 #[.int .u8 c] w fun e w' => e = .returned (.int .u8 (low c)) ∧ w' = w := by
  by_cases hc : 65 ≤ c
  · by_cases hd : c ≤ 90
    · have e : low c = c + 97 - 65 := by unfold low; rw [if_pos ⟨hc, hd⟩]; omega
      rw [e]
      clear e
      go_enter Try.func14, Try.ntmps14
      go_wp2
      go_ret
      exact ⟨rfl, rfl⟩
    · have e : low c = c := by unfold low; rw [if_neg (by omega)]
      rw [e]
      clear e
      go_enter Try.func14, Try.ntmps14
      go_wp2
      go_ret
      exact ⟨rfl, rfl⟩
  · have e : low c = c := by unfold low; rw [if_neg (by omega)]
    rw [e]
    clear e
    go_enter Try.func14, Try.ntmps14
    go_wp2
    go_ret
    exact ⟨rfl, rfl⟩
/-- The answer to a question p, memory as it was (but for draws). -/
def Answers (w : World) (p : Prop) (e : Ending) (w' : World) : Prop := ∃ r : Bool, e = .returned (.bool r) ∧ Is r p ∧ ∃ q, w' = w.drewN q

theorem drewN_add (w : World) (a b : Nat) : (w.drewN a).drewN b = w.drewN (a + b) := by simp [World.drewN, Nat.add_assoc]
theorem byte_le (u : UInt8) : (u.toNat : Int) ≤ 255 := by have := u.toNat_lt; omega
theorem row_drewN {w : World} {b o n : Nat} {x : Nat → Int} (h : ∀ i, i < n → w.cell? ⟨b, o + i, none⟩ = some (.int .u8 (x i))) (q : Nat) : ∀ i, i < n → (w.drewN q).cell? ⟨b, o + i, none⟩ = some (.int .u8 (x i)) := h

set_option maxRecDepth 100000 in
set_option maxHeartbeats 1000000 in
theorem fold_any (a : Option Addr) (n c : Nat) (x : Nat → Int) (s : ByteArray) (hn : n ≤ 1048576) (hx : ∀ i, i < n → 0 ≤ x i ∧ x i ≤ 255) (w : World) (hr : Row w a n x) :
    Calls Try.prog 13 #[.slice a n c, .string s] w fun e w' => Answers w (Same n x s.size (byteAt s)) e w' := by
  have HR := hidOf hr
  have HX := hidOf hx
  clear hr hx
  by_cases hne : n = s.size
  case neg =>
    go_enter Try.func13, Try.ntmps13
    go_wp2
    go_ret
    exact ⟨false, rfl, ⟨(fun h => by cases h), fun h => absurd h.1 hne⟩, 0, rfl⟩
  have HE := hidOf hne
  have hle : n ≤ s.size := by omega
  have hge : s.size ≤ n := by omega
  clear hne
  go_enter Try.func13, Try.ntmps13
  go_wp2
  go_loopw [13] (fun i wx => ∃ k : Nat, k ≤ n ∧ i = .int .i64 k ∧ Agree k x (byteAt s) ∧ ∃ q, wx = w.drewN q) (fun i _ => n - (intOf i).toNat)
  case atStart => exact ⟨0, Nat.zero_le _, rfl, fun i hi => absurd hi (by omega), 0, rfl⟩
  case round =>
    obtain ⟨k, hk, rfl, hag, q, hq⟩ := hrel
    have HG := hidOf hag
    have HQ := hidOf hq
    by_cases hlt : k < n
    · obtain ⟨b, o, rfl, hc⟩ := HR.out (by omega)
      have hck : wr.cell? ⟨b, o + k, none⟩ = some (.int .u8 (x k)) := by rw [hq]; exact hc k hlt
      have hxk := HX.out k hlt
      have hks : k < s.size := by omega
      have hby := byteAt_eq s k hks
      clear hc hag hq
      by_cases he : low (x k) = low (byteAt s k)
      · have hb : (low (x k) != low (s[k].toNat : Int)) = false := by rw [← hby, he]; simp
        have HN : Hid (Agree (k + 1) x (byteAt s)) := fun i hi => by
          by_cases e : i = k
          · rw [e]; exact he
          · exact HG.out i (by omega)
        clear he hby
        go_wp2
        go_quiet ((go_at_call 14; exact Calls.quiet_of_same (lower_any _ (by omega) (by first | omega | exact byte_le _) _)))
        go_wp2
        go_roundw
        case rel => exact ⟨k + 1, by omega, by go_num, HN.out, _, by rw [HQ.out]; exact drewN_add w q _⟩
        case measure => simp [intOf]; omega
      · have hb : (low (x k) != low (s[k].toNat : Int)) = true := by rw [← hby]; simpa using he
        have HN : Hid (¬ Same n x s.size (byteAt s)) := fun h => he (h.2 k hlt)
        clear he hby
        go_wp2
        go_quiet ((go_at_call 14; exact Calls.quiet_of_same (lower_any _ (by omega) (by first | omega | exact byte_le _) _)))
        go_wp2
        go_ret
        exact ⟨false, rfl, ⟨(fun h => by cases h), fun h => absurd h HN.out⟩, _, by rw [HQ.out]; exact drewN_add w q _⟩
    · have HN : Hid (Same n x s.size (byteAt s)) := ⟨HE.out, fun i hi => hag i (by omega)⟩
      clear hag hq
      go_wp2
      go_ret
      exact ⟨true, rfl, ⟨fun _ => HN.out, fun _ => rfl⟩, _, HQ.out⟩
set_option maxHeartbeats 400000 in
theorem zz_any (a : Option Addr) (n c : Nat) (x : Nat → Int) (s : ByteArray) (hn : n ≤ 1048576) (hx : ∀ i, i < n → 0 ≤ x i ∧ x i ≤ 255) (w : World) (hr : Row w a n x) :
    Calls Try.prog 9 #[.slice a n c, .string s] w fun e w' => Answers w (Same n x s.size (byteAt s)) e w' := by
  have HR := hidOf hr
  have HX := hidOf hx
  clear hr hx
  go_enter Try.func9, Try.ntmps9
  go_wp2_with fail
  refine (fold_any a n c x s hn HX.out _ (by exact HR.out)).mono ?_
  rintro e w' ⟨r, rfl, hI, q, rfl⟩
  have HI := hidOf hI
  clear hI
  go_wp2
  go_ret
  exact ⟨r, rfl, HI.out, q, rfl⟩

/-! ### The bounds on lengths -/
def Says (n m : Nat) (w : World) (e : Ending) (w' : World) : Prop := ∃ r : Bool, e = .returned (.bool r) ∧ (r = true → n + m ≤ 1048576) ∧ w = w'

set_option maxRecDepth 100000 in
set_option maxHeartbeats 400000 in
theorem bytes6_any (a : Option Addr) (n c : Nat) (s : ByteArray) (hn : n ≤ 9223372036854775807) (hs : s.size ≤ 9223372036854775807) (w : World) :
    Calls Try.prog 6 #[.slice a n c, .string s] w fun e w' => Says n s.size w e w' := by
  by_cases h1 : n ≤ 1048576
  case neg =>
    go_enter Try.func6, Try.ntmps6
    go_wp2
    go_ret
    exact ⟨false, rfl, (fun h => by cases h), rfl⟩
  by_cases h2 : s.size ≤ 1048576
  case neg =>
    go_enter Try.func6, Try.ntmps6
    go_wp2
    go_ret
    exact ⟨false, rfl, (fun h => by cases h), rfl⟩
  by_cases h3 : n + s.size ≤ 1048576
  case neg =>
    go_enter Try.func6, Try.ntmps6
    go_wp2
    go_ret
    exact ⟨false, rfl, (fun h => by cases h), rfl⟩
  have H3 := hidOf h3
  go_enter Try.func6, Try.ntmps6
  go_wp2
  go_ret
  exact ⟨true, rfl, fun _ => H3.out, rfl⟩

set_option maxRecDepth 100000 in
set_option maxHeartbeats 400000 in
theorem bytes10_any (a : Option Addr) (n c : Nat) (s : ByteArray) (hn : n ≤ 9223372036854775807) (hs : s.size ≤ 9223372036854775807) (w : World) :
    Calls Try.prog 10 #[.slice a n c, .string s] w fun e w' => Says n s.size w e w' := by
  by_cases h1 : n ≤ 1048576
  case neg =>
    go_enter Try.func10, Try.ntmps10
    go_wp2
    go_ret
    exact ⟨false, rfl, (fun h => by cases h), rfl⟩
  by_cases h2 : s.size ≤ 1048576
  case neg =>
    go_enter Try.func10, Try.ntmps10
    go_wp2
    go_ret
    exact ⟨false, rfl, (fun h => by cases h), rfl⟩
  by_cases h3 : n + s.size ≤ 1048576
  case neg =>
    go_enter Try.func10, Try.ntmps10
    go_wp2
    go_ret
    exact ⟨false, rfl, (fun h => by cases h), rfl⟩
  have H3 := hidOf h3
  go_enter Try.func10, Try.ntmps10
  go_wp2
  go_ret
  exact ⟨true, rfl, fun _ => H3.out, rfl⟩

/-! ### The copy -/
theorem info5 : (Try.prog.info? 5).map (fun i => (i.zero, i.size, i.bytes)) = some (some (.int .u8 0), 1, 1) := by kernel_rfl
/-- A slice of n bytes at the head of block b (where n = 0 nothing is said of a). -/
structure Rz (w : World) (a : Option Addr) (b n : Nat) (x : Nat → Int) : Prop where
  adr : 0 < n → a = some ⟨b, 0, none⟩
  cell : ∀ i, i < n → w.cell? ⟨b, i, none⟩ = some (.int .u8 (x i))
theorem rz_below {w w' : World} {a : Option Addr} {b n : Nat} {x : Nat → Int} (h : Rz w a b n x) (hb : Below w.heap.size w w') : Rz w' a b n x :=
  ⟨h.adr, fun i hi => (hb.cell (World.block_lt_of_cell? _ ⟨b, i, none⟩ (h.cell i hi))).trans (h.cell i hi)⟩
theorem rz_row {w : World} {a : Option Addr} {b n : Nat} {x : Nat → Int} (h : Rz w a b n x) : Row w a n x := fun hn => ⟨b, 0, h.adr hn, fun i hi => by rw [Nat.zero_add]; exact h.cell i hi⟩
structure Cp (w wr : World) (n k : Nat) (x : Nat → Int) : Prop where
  row : wr.rowIs w.heap.size 5 n (fun i => if i < k then .int .u8 (x i) else .int .u8 0)
  below : Below w.heap.size w wr
theorem cp_start (w : World) (n : Nat) (x : Nat → Int) : Cp w (w.alloc (.cells (madeCells #[.int .u8 0] n) 5)) n 0 x :=
  ⟨(World.rowIs_made w _ _ _).congr fun i _ => by simp, (Below.refl _ _).alloc (Nat.le_refl _) _⟩
theorem cp_step {w wr : World} {n k : Nat} {x : Nat → Int} (h : Cp w wr n k x) : Cp w (wr.setCell ⟨w.heap.size, k, none⟩ (.int .u8 (x k))) n (k + 1) x := by
  refine ⟨(h.row.set k _).congr fun i _ => ?_, h.below.setCell (Nat.le_refl _) _⟩
  by_cases e : i = k
  · subst e; simp
  · rw [if_neg e]
    by_cases hlt : i < k
    · rw [if_pos hlt, if_pos (by omega)]
    · rw [if_neg hlt, if_neg (by omega)]
theorem cp_cell {w wr : World} {n k : Nat} {x : Nat → Int} (h : Cp w wr n k x) (hk : k < n) : wr.cell? ⟨w.heap.size, k, none⟩ = some (.int .u8 0) := by
  rw [h.row.cell hk, if_neg (by omega)]
theorem cp_done {w wr : World} {n k : Nat} {x : Nat → Int} (h : Cp w wr n k x) (hk : n ≤ k) : Rz wr (some ⟨w.heap.size, 0, none⟩) w.heap.size n x :=
  ⟨fun _ => rfl, fun i hi => by rw [h.row.cell hi, if_pos (by omega)]⟩
def Cloned (w : World) (n : Nat) (x : Nat → Int) (e : Ending) (w' : World) : Prop :=
  ∃ (a : Option Addr) (b : Nat), e = .returned (.slice a n n) ∧ Rz w' a b n x ∧ (a = none ∧ n = 0 ∨ a = some ⟨b, 0, none⟩) ∧ Below w.heap.size w w'

set_option maxHeartbeats 400000 in
theorem clone_any (a : Option Addr) (n c : Nat) (x : Nat → Int) (hn : n ≤ 1048576) (w : World) (ha : Row w a n x) (hc : a = none → c = 0 ∧ n = 0) :
    Calls Try.prog 7 #[.slice a n c] w fun e w' => Cloned w n x e w' := by
  have hmk := run_make_row' (P := Try.prog) 22 5 (.int .u8 0) 1 Try.underlying22 info5 rfl .i64 .i64 n (by omega) (by omega)
  have heq := fun wx => Lib.run_eql_slice_nil (P := Try.prog) wx 22 5 a n c 0 0 Try.underlying22
  have HA := hidOf ha
  clear ha
  cases a with
  | none =>
    obtain ⟨rfl, rfl⟩ := hc rfl
    go_enter Try.func7, Try.ntmps7
    go_wp2
    go_ret
    exact ⟨none, w.heap.size, rfl, ⟨fun h => absurd h (by omega), fun i hi => absurd hi (by omega)⟩, .inl ⟨rfl, rfl⟩, Below.refl _ _⟩
  | some p =>
    clear hc
    go_enter Try.func7, Try.ntmps7
    go_wp2
    go_loopw [4] (fun i wr => ∃ k : Nat, k ≤ n ∧ i = .int .i64 k ∧ Cp w wr n k x) (fun i _ => n - (intOf i).toNat)
    case atStart => exact ⟨0, Nat.zero_le _, rfl, cp_start w n x⟩
    case round =>
      obtain ⟨k, hk, rfl, hrow⟩ := hrel
      by_cases hlt : k < n
      · obtain ⟨b, o, hx, hc⟩ := HA.out (by omega)
        obtain rfl := Option.some.inj hx
        have hc0 := hc k hlt
        have hc1 := (hrow.below.cell (p := ⟨b, o + k, none⟩) (World.block_lt_of_cell? _ ⟨b, o + k, none⟩ hc0)).trans hc0
        have hc2 := cp_cell hrow hlt
        have hfz := hrow.row.frozen k
        have hnext := cp_step hrow
        clear hc0 hc hx
        go_wp2
        go_roundw
        case rel => exact ⟨k + 1, by omega, by go_num, hnext⟩
        case measure => simp [intOf]; omega
      · go_wp2
        go_ret
        exact ⟨_, _, rfl, cp_done hrow (by omega), .inr rfl, hrow.below⟩
end Go.Proofs.Qxb6000356a.Fold
