/-
  Seat b6000356a: A REGION THAT DRAWS ITS ORDER, BY AN INVARIANT. 'L k': operation k has come up. 'u k': what lies in the slot that operation k writes. One obligation an operation, not one an order; an operation may call a Go function, by its contract. No Go text in sight.
-/
import Derived.WalkKit
namespace Go.Proofs.Qxb6000356a.RegInv

def updL (L : Nat → Bool) (i : Nat) : Nat → Bool := fun j => if j = i then true else L j
def updV (u : Nat → Value) (i : Nat) (v : Value) : Nat → Value := fun j => if j = i then v else u j
theorem updV_self (u : Nat → Value) (i : Nat) (v : Value) : updV u i v i = v := by simp [updV]

/-- A list of slots in which each slot t with 'sl t = some k' holds 'u k'. -/
def over (sl : Nat → Option Nat) (u : Nat → Value) : Nat → List Value → List Value
  | _, [] => []
  | t, v :: r => (match sl t with | some k => u k | none => v) :: over sl u (t + 1) r

theorem over_get (sl : Nat → Option Nat) (u : Nat → Value) : ∀ (l : List Value) (s i : Nat), (over sl u s l)[i]? = (l[i]?).map fun v => match sl (s + i) with | some k => u k | none => v
  | [], _, _ => by simp [over]
  | v :: r, s, 0 => by simp [over]
  | v :: r, s, i + 1 => by
    simp only [over, List.getElem?_cons_succ]
    rw [over_get sl u r (s + 1) i, show s + 1 + i = s + (i + 1) by omega]

/-- The frame: a0, the region's own slots as u says. -/
def frameOf (a0 : Act) (sl : Nat → Option Nat) (u : Nat → Value) : Act := { a0 with tmps := (over sl u 0 a0.tmps.toList).toArray }

theorem frame_get (a0 : Act) (sl : Nat → Option Nat) (u : Nat → Value) (t : Nat) : (frameOf a0 sl u).tmps[t]? = (a0.tmps[t]?).map fun v => match sl t with | some k => u k | none => v := by
  simp [frameOf, over_get]

theorem frame_hit (a0 : Act) {sl : Nat → Option Nat} (u : Nat → Value) {t k : Nat} (ht : t < a0.tmps.size) (h : sl t = some k) : (frameOf a0 sl u).eval (.tmp t) = u k := by
  simp only [Act.eval, Array.getD_eq_getD_getElem?, frame_get, h]
  simp [ht]
theorem frame_miss (a0 : Act) {sl : Nat → Option Nat} (u : Nat → Value) {t : Nat} (h : sl t = none) : (frameOf a0 sl u).eval (.tmp t) = a0.eval (.tmp t) := by
  simp only [Act.eval, Array.getD_eq_getD_getElem?, frame_get, h]
  cases a0.tmps[t]? <;> rfl

theorem frame_put (a0 : Act) {sl : Nat → Option Nat} (u : Nat → Value) {d k : Nat} (v : Value) (hd : sl d = some k) (hone : ∀ t, sl t = some k → t = d) :
    (frameOf a0 sl u).put (some d) v = frameOf a0 sl (updV u k v) := by
  have h : (frameOf a0 sl u).tmps.setIfInBounds d v = (frameOf a0 sl (updV u k v)).tmps := by
    apply Array.ext_getElem?
    intro t
    rw [Array.getElem?_setIfInBounds, frame_get, frame_get]
    have hs : d < (frameOf a0 sl u).tmps.size ↔ d < a0.tmps.size := by
      have e : (over sl u 0 a0.tmps.toList).length = a0.tmps.toList.length := by
        generalize a0.tmps.toList = l
        generalize 0 = s
        induction l generalizing s with
        | nil => rfl
        | cons x r ih => simp [over, ih]
      simp [frameOf, e]
    by_cases e : d = t
    · subst e
      rw [if_pos rfl]
      by_cases hlt : d < a0.tmps.size
      · simp [hs, hlt, hd, updV]
      · simp [hs, hlt]
    · rw [if_neg e]
      cases hst : sl t with
      | none => rfl
      | some k' =>
        have hne : k' ≠ k := fun e' => e (hone t (by rw [hst, e'])).symm
        simp [updV, hne]
  show ({ (frameOf a0 sl u) with tmps := (frameOf a0 sl u).tmps.setIfInBounds d v } : Act) = _
  rw [h]
  rfl

theorem frame_start (a0 : Act) {sl : Nat → Option Nat} (ds : Nat → Nat) (hds : ∀ t k, sl t = some k → t = ds k) : frameOf a0 sl (fun k => a0.tmps.getD (ds k) undef) = a0 := by
  have h : (frameOf a0 sl (fun k => a0.tmps.getD (ds k) undef)).tmps = a0.tmps := by
    apply Array.ext_getElem?
    intro t
    rw [frame_get]
    cases hst : sl t with
    | none => simp
    | some k =>
      have e := hds t k hst
      subst e
      simp only [Array.getD_eq_getD_getElem?]
      cases a0.tmps[ds k]? <;> simp
  show ({ a0 with tmps := (frameOf a0 sl (fun k => a0.tmps.getD (ds k) undef)).tmps } : Act) = a0
  rw [h]

/-! ### How many have not come up -/
def left (L : Nat → Bool) : Nat → Nat
  | 0 => 0
  | n + 1 => left L n + if L n = true then 0 else 1

theorem left_upd (L : Nat → Bool) (i : Nat) (hL : L i = false) : ∀ n, i < n → left (updL L i) n + 1 = left L n
  | 0, h => by omega
  | n + 1, h => by
    by_cases e : i = n
    · subst e
      have same : ∀ m, m ≤ i → left (updL L i) m = left L m := by
        intro m
        induction m with
        | zero => intro _; rfl
        | succ m ih => intro hm; simp only [left]; rw [ih (by omega)]; simp [updL, show m ≠ i by omega]
      simp [left, same i (Nat.le_refl _), updL, hL]
    · have ih := left_upd L i hL n (by omega)
      simp only [left]
      have : updL L i n = L n := by simp [updL, show n ≠ i by omega]
      rw [this]
      omega
theorem left_zero (L : Nat → Bool) : ∀ n, left L n = 0 → ∀ i, i < n → L i = true
  | 0, _, i, h => by omega
  | n + 1, hz, i, h => by
    simp only [left] at hz
    by_cases e : i = n
    · subst e
      cases hL : L i with
      | true => rfl
      | false => simp [hL] at hz
    · exact left_zero L n (by omega) i (by omega)
theorem left_none : ∀ n, left (fun _ => false) n = n
  | 0 => rfl
  | n + 1 => by simp [left, left_none n]

section
variable {P : Program} {ops : Array Oper} {Q : Exit → Act → World → Prop} {md : Region.Mode}

theorem wpOp_run {i : Nat} {o : Oper} {K : Act → World → Prop} {a : Act} {w w' : World} {v : Value} (ho : ops[i]? = some o) (hg : o.guard = none) (hr : (execOp a.eval o).run P w = .ok (.value v) w') (h : K (a.put o.dst v) w') : wpOp P ops Q i K a w := by
  unfold wpOp
  simp only [ho, Region.wanted, hg, if_true]
  left
  simp only [Oper.wp, hr, Oper.upon]
  exact h

theorem wpOp_call {i : Nat} {o : Oper} {K : Act → World → Prop} {a : Act} {w w' : World} {f : FuncId} {args : Array Value} {Post : Ending → World → Prop} (ho : ops[i]? = some o) (hg : o.guard = none)
    (hr : (execOp a.eval o).run P w = .ok (.enter f args) w') (hc : Calls P f args w' Post) (h : ∀ e w'', Post e w'' → ∃ v, e = .returned v ∧ K (a.put o.dst v) w'') : wpOp P ops Q i K a w := by
  unfold wpOp
  simp only [ho, Region.wanted, hg, if_true]
  left
  simp only [Oper.wp, hr, Oper.upon]
  refine hc.mono fun e w'' hp => ?_
  obtain ⟨v, rfl, hk⟩ := h e w'' hp
  exact hk

/-- What a step of the region is asked: whatever follows ('K'), if it follows from the invariant, follows behind the operation. -/
def Step (P : Program) (ops : Array Oper) (Q : Exit → Act → World → Prop) (md : Region.Mode) (a0 : Act) (sl : Nat → Option Nat) (J : (Nat → Bool) → (Nat → Value) → World → Prop) (i : Nat) : Prop :=
  ∀ (a : Act) (L : Nat → Bool) (u : Nat → Value) (w : World) (o : Oper) (K : Act → World → Prop), (∀ t k, sl t = some k → a.eval (.tmp t) = u k) → (∀ t, sl t = none → a.eval (.tmp t) = a0.eval (.tmp t)) →
    J L u w → ops[i]? = some o → L i = false → (∀ e ∈ o.after, Region.binds md e = true → L e.on = true) → (∀ v w', J (updL L i) (updV u i v) w' → K (a.put o.dst v) w') → wpOp P ops Q i K a w

theorem any_inv {a0 : Act} {sl : Nat → Option Nat} (ds : Nat → Nat) (J : (Nat → Bool) → (Nat → Value) → World → Prop) (hds : ∀ t k, sl t = some k → t = ds k) (hsz : ∀ t k, sl t = some k → t < a0.tmps.size)
    (hops : ∀ i o, ops[i]? = some o → o.guard = none ∧ o.dst = some (ds i) ∧ sl (ds i) = some i ∧ ∀ e ∈ o.after, e.on < i)
    (step : ∀ i, i < ops.size → Step P ops Q md a0 sl J i) (done : ∀ L u w, (∀ i, i < ops.size → L i = true) → J L u w → Q .normal (frameOf a0 sl u) w) :
    ∀ (fuel : Nat) (L : Nat → Bool) (listed : Array Bool) (u : Nat → Value) (w : World), listed.size = ops.size → (∀ i, i < ops.size → listed[i]? = some (L i)) → left L ops.size = fuel → J L u w → wpAny P md ops Q fuel listed (frameOf a0 sl u) w := by
  have rdy : ∀ (L : Nat → Bool) (listed : Array Bool), listed.size = ops.size → (∀ i, i < ops.size → listed[i]? = some (L i)) → Region.ready md ops listed = [] → ∀ i, i < ops.size → L i = true := by
    intro L listed hs hl hr i
    induction i using Nat.strongRecOn with
    | _ i ih =>
      intro hi
      cases hLi : L i with
      | true => rfl
      | false =>
        exfalso
        have ho : ops[i]? = some ops[i] := Array.getElem?_eq_getElem hi
        have : i ∈ Region.ready md ops listed := by
          refine mem_ready.2 ⟨by rw [Array.getD_eq_getD_getElem?, hl i hi]; exact hLi, ops[i], ho, fun e he _ => ?_⟩
          have hlt := (hops i _ ho).2.2.2 e he
          rw [Array.getD_eq_getD_getElem?, hl e.on (by omega)]
          exact ih e.on hlt (by omega)
        rw [hr] at this
        cases this
  intro fuel
  induction fuel with
  | zero =>
    intro L listed u w hs hl hf hJ
    have hall := left_zero L ops.size hf
    refine ⟨?_, done L u w hall hJ⟩
    apply List.eq_nil_iff_forall_not_mem.2
    intro i hi
    obtain ⟨h1, o, ho, _⟩ := mem_ready.1 hi
    have hi' : i < ops.size := (Array.getElem?_eq_some_iff.1 ho).1
    rw [Array.getD_eq_getD_getElem?, hl i hi'] at h1
    simp [hall i hi'] at h1
  | succ fuel ih =>
    intro L listed u w hs hl hf hJ
    refine ⟨fun hr => done L u w (rdy L listed hs hl hr) hJ, fun i hi => ?_⟩
    obtain ⟨h1, o, ho, haf⟩ := mem_ready.1 hi
    have hi' : i < ops.size := (Array.getElem?_eq_some_iff.1 ho).1
    have hLi : L i = false := by
      rw [Array.getD_eq_getD_getElem?, hl i hi'] at h1
      simpa using h1
    obtain ⟨hg, hd, hsd, hon⟩ := hops i o ho
    refine step i hi' (frameOf a0 sl u) L u w o _ (fun t k h => frame_hit a0 u (hsz t k h) h) (fun t h => frame_miss a0 u h) hJ ho hLi (fun e he hb => by
      have := haf e he hb
      have hlt := hon e he
      rw [Array.getD_eq_getD_getElem?, hl e.on (by omega)] at this
      simpa using this) fun v w' hJ' => ?_
    rw [hd, frame_put a0 u v hsd (fun t ht => hds t i ht)]
    refine ih (updL L i) _ _ _ (by simpa using hs) (fun j hj => ?_) (by have := left_upd L i hLi ops.size hi'; omega) hJ'
    rw [Array.getElem?_setIfInBounds]
    by_cases e : i = j
    · subst e; simp [updL, hs, hi']
    · rw [if_neg e, hl j hj]; simp [updL, show j ≠ i from fun h => e h.symm]

/-- THE LAW. -/
theorem wp_region_inv {id : Nat} {a0 : Act} {w : World} (hm : P.follows .mixedOrders = true) (sl : Nat → Option Nat) (ds : Nat → Nat) (J : (Nat → Bool) → (Nat → Value) → World → Prop) (hds : ∀ t k, sl t = some k → t = ds k) (hsz : ∀ t k, sl t = some k → t < a0.tmps.size)
    (hops : ∀ i o, ops[i]? = some o → o.guard = none ∧ o.dst = some (ds i) ∧ sl (ds i) = some i ∧ ∀ e ∈ o.after, e.on < i)
    (start : ∀ u, J (fun _ => false) u w.drew)
    (step : ∀ i, i < ops.size → Step P ops Q .any a0 sl J i) (done : ∀ L u w, (∀ i, i < ops.size → L i = true) → J L u w → Q .normal (frameOf a0 sl u) w) : (Code.region id ops true).wp P Q a0 w := by
  refine wp_region_any hm ?_
  have h := any_inv (P := P) (md := .any) (Q := Q) ds J hds hsz hops step done ops.size (fun _ => false) (Array.replicate ops.size false) _ _ (by simp) (fun i hi => by simp [hi]) (left_none _) (start (fun k => a0.tmps.getD (ds k) undef))
  rw [frame_start a0 ds hds] at h
  exact h

/-- The closed facts on the operations, by the kernel. -/
def chk (sl : Nat → Option Nat) (ds : Nat → Nat) (ops : Array Oper) : Bool :=
  (List.range ops.size).all fun i => match ops[i]? with
    | some o => o.guard.isNone && (o.dst == some (ds i)) && (sl (ds i) == some i) && o.after.toList.all fun e => decide (e.on < i)
    | none => false
theorem of_chk {sl : Nat → Option Nat} {ds : Nat → Nat} (h : chk sl ds ops = true) : ∀ i o, ops[i]? = some o → o.guard = none ∧ o.dst = some (ds i) ∧ sl (ds i) = some i ∧ ∀ e ∈ o.after, e.on < i := by
  intro i o ho
  have hi : i < ops.size := (Array.getElem?_eq_some_iff.1 ho).1
  have := List.all_eq_true.1 h i (List.mem_range.2 hi)
  simp only [ho, Bool.and_eq_true, List.all_eq_true, decide_eq_true_eq, beq_iff_eq, Option.isNone_iff_eq_none] at this
  exact ⟨this.1.1.1, this.1.1.2, this.1.2, fun e he => this.2 e (by simpa using he)⟩
end
end Go.Proofs.Qxb6000356a.RegInv
