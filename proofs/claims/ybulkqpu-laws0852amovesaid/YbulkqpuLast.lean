import Derived.WalkKit
import Derived.Orders
import Derived.StillTail
import Derived.OrdersHeld
/-! A region that draws its order and whose last operation (a store) waits for all the others: it is the region without that operation, in whatever order, and then the operation. So a load of the very cell that is stored may be taken first among the others. -/
namespace Go.Proofs.Ybulkqpu.mv
open Go

/-- What is left to be shown behind the others. -/
def late (P : Program) (st : Oper) (Q : Exit → Act → World → Prop) : Exit → Act → World → Prop
  | .normal, a, w => st.wp P a w (fun a' w' => Q .normal a' w') Q
  | e, a, w => Q e a w

/-- The look that the kernel carries out: no guard; the last waits for each other one; every one waits for elder ones alone. -/
def lastOk (md : Region.Mode) (init : Array Oper) (st : Oper) : Bool :=
  ((init.push st).all fun o => o.guard.isNone) &&
  ((List.range init.size).all fun j => st.after.any fun e => Region.binds md e && e.on == j) &&
  ((List.range (init.push st).size).all fun i => match (init.push st)[i]? with
    | some o => o.after.all fun e => !Region.binds md e || decide (e.on < i)
    | none => true)

section
variable {P : Program} {md : Region.Mode} {init : Array Oper} {st : Oper} {Q : Exit → Act → World → Prop}

theorem wp_late {o : Oper} {a : Act} {w : World} {K K' : Act → World → Prop} (hK : ∀ a w, K a w → K' a w) (h : o.wp P a w K (late P st Q)) : o.wp P a w K' Q := by
  unfold Oper.wp at *
  generalize (execOp a.eval o).run P w = r at *
  cases r with
  | ok n w' =>
    cases n <;> simp only [Oper.upon] at h ⊢ <;>
      first
        | exact hK _ _ h
        | exact Calls.mono h (fun e w'' he => by cases e <;> first | exact hK _ _ he | exact he)
        | exact Rows.mono h (fun _ _ he => hK _ _ he)
  | halt x w' => cases x <;> simp only [Oper.upon] at h ⊢ <;> exact h

theorem push_getD {listed : Array Bool} {j : Nat} {d b : Bool} (h : j < listed.size) : (listed.push b).getD j d = listed.getD j d := by
  simp [Array.getElem?_push, h, Nat.ne_of_lt h]
theorem push_getD_last {listed : Array Bool} {d b : Bool} : (listed.push b).getD listed.size d = b := by simp
theorem push_set {listed : Array Bool} {i : Nat} {b : Bool} (h : i < listed.size) : (listed.push b).setIfInBounds i true = (listed.setIfInBounds i true).push b := by
  apply Array.ext_getElem?
  intro k
  by_cases hk : k = i
  · subst hk
    rw [Array.getElem?_setIfInBounds_self_of_lt (by simp; omega), Array.getElem?_push_lt (by simpa using h)]
    simp
  · rw [Array.getElem?_setIfInBounds_ne (Ne.symm hk), Array.getElem?_push, Array.getElem?_push, Array.getElem?_setIfInBounds_ne (Ne.symm hk)]
    simp

theorem ready_push {listed : Array Bool} (hok : lastOk md init st = true) (hs : listed.size = init.size) {i : Nat} (hi : i < init.size) :
    i ∈ Region.ready md (init.push st) (listed.push false) ↔ i ∈ Region.ready md init listed := by
  unfold lastOk at hok
  simp only [Bool.and_eq_true] at hok
  have h3 := List.all_eq_true.1 hok.2 i (List.mem_range.2 (by simp; omega))
  rw [Array.getElem?_push_lt hi] at h3
  rw [mem_ready, mem_ready, push_getD (by omega), Array.getElem?_push_lt hi, Array.getElem?_eq_getElem hi]
  simp only [Option.some.injEq, exists_eq_left', Array.all_eq_true_iff_forall_mem, Bool.or_eq_true, Bool.not_eq_true', decide_eq_true_eq] at h3 ⊢
  constructor
  · rintro ⟨a, b⟩
    refine ⟨a, fun e he hb => ?_⟩
    have := b e he hb
    rcases h3 e he with h | h
    · rw [h] at hb; cases hb
    · rwa [push_getD (by omega)] at this
  · rintro ⟨a, b⟩
    refine ⟨a, fun e he hb => ?_⟩
    rcases h3 e he with h | h
    · rw [h] at hb; cases hb
    · rw [push_getD (by omega)]; exact b e he hb

theorem ready_last {listed : Array Bool} (hok : lastOk md init st = true) (hs : listed.size = init.size) :
    init.size ∈ Region.ready md (init.push st) (listed.push false) ↔ ∀ j, j < init.size → listed.getD j false = true := by
  unfold lastOk at hok
  simp only [Bool.and_eq_true] at hok
  have h2 := hok.1.2
  have h3 := List.all_eq_true.1 hok.2 init.size (List.mem_range.2 (by simp))
  rw [mem_ready]
  rw [← hs, push_getD_last, hs]
  simp only [Array.getElem?_push_size, Option.some.injEq, exists_eq_left', true_and, Array.all_eq_true_iff_forall_mem, Bool.or_eq_true, Bool.not_eq_true', decide_eq_true_eq] at h3 ⊢
  constructor
  · intro h j hj
    have := List.all_eq_true.1 h2 j (List.mem_range.2 hj)
    obtain ⟨e, he, hb⟩ := Array.any_eq_true'.1 this
    simp only [Bool.and_eq_true, beq_iff_eq] at hb
    have h4 := h e he hb.1
    rwa [hb.2, push_getD (by omega)] at h4
  · intro h e he hb
    rcases h3 e he with h5 | h5
    · rw [h5] at hb; cases hb
    · rw [push_getD (by omega)]; exact h _ h5

theorem ready_nil {listed : Array Bool} (hok : lastOk md init st = true) (hs : listed.size = init.size) (h : Region.ready md init listed = []) : ∀ j, j < init.size → listed.getD j false = true := by
  unfold lastOk at hok
  simp only [Bool.and_eq_true] at hok
  intro j
  induction j using Nat.strongRecOn with
  | _ j ih =>
    intro hj
    cases hl : listed.getD j false with
    | true => rfl
    | false =>
      exfalso
      have h3 := List.all_eq_true.1 hok.2 j (List.mem_range.2 (by simp; omega))
      rw [Array.getElem?_push_lt hj] at h3
      simp only [Array.all_eq_true_iff_forall_mem, Bool.or_eq_true, Bool.not_eq_true', decide_eq_true_eq] at h3
      have : j ∈ Region.ready md init listed := by
        rw [mem_ready, Array.getElem?_eq_getElem hj]
        refine ⟨getD_in (by omega) hl, _, rfl, fun e he hb => ?_⟩
        rcases h3 e he with h5 | h5
        · rw [h5] at hb; cases hb
        · exact ih _ h5 (by omega)
      rw [h] at this
      cases this

theorem wanted_none {o : Oper} {f : Nat → Option Bool} (h : o.guard.isNone = true) : Region.wanted o f = true := by
  unfold Region.wanted
  cases hg : o.guard with
  | none => rfl
  | some g => rw [hg] at h; cases h

theorem guard_at (hok : lastOk md init st = true) {i : Nat} {o : Oper} (h : (init.push st)[i]? = some o) : o.guard.isNone = true := by
  unfold lastOk at hok
  simp only [Bool.and_eq_true] at hok
  have h1 := hok.1.1
  rw [Array.all_eq_true_iff_forall_mem] at h1
  exact h1 o (Array.mem_of_getElem? h)

theorem done_all {listed : Array Bool} (hs : listed.size = init.size) (hall : ∀ j, j < init.size → listed.getD j false = true) : Region.ready md (init.push st) ((listed.push false).setIfInBounds init.size true) = [] := by
  apply List.eq_nil_iff_forall_not_mem.2
  intro i hi
  obtain ⟨h1, o, ho, _⟩ := mem_ready.1 hi
  have hlt : i < init.size + 1 := by simpa using (Array.getElem?_eq_some_iff.1 ho).1
  by_cases e : i = init.size
  · subst e
    simp [hs] at h1
  · rw [getD_set_ne true (Ne.symm e), push_getD (by omega)] at h1
    have h2 := hall i (by omega)
    rw [getD_both h1] at h2
    cases h2

theorem wpAny_last (hok : lastOk md init st = true) : ∀ (fuel : Nat) (listed : Array Bool) (a : Act) (w : World), listed.size = init.size →
    wpAny P md init (late P st Q) fuel listed a w → wpAny P md (init.push st) Q (fuel + 1) (listed.push false) a w := by
  have fin : ∀ (fuel : Nat) (listed : Array Bool) (a : Act) (w : World), listed.size = init.size → (∀ j, j < init.size → listed.getD j false = true) → late P st Q .normal a w →
      wpOp P (init.push st) Q init.size (wpAny P md (init.push st) Q fuel ((listed.push false).setIfInBounds init.size true)) a w := by
    intro fuel listed a w hs hall hq
    have hn : (init.push st)[init.size]? = some st := Array.getElem?_push_size
    unfold wpOp
    rw [hn]
    simp only [wanted_none (guard_at hok hn), if_true]
    refine .inl (Oper.wp_mono (fun a' w' h' => ?_) hq)
    have hr := done_all (md := md) (st := st) hs hall
    cases fuel with
    | zero => exact ⟨hr, h'⟩
    | succ f => exact ⟨fun _ => h', fun i hi => by rw [hr] at hi; cases hi⟩
  intro fuel
  induction fuel with
  | zero =>
    intro listed a w hs h
    obtain ⟨hr, hq⟩ := h
    have hall := ready_nil hok hs hr
    refine ⟨fun h0 => ?_, fun i hi => ?_⟩
    · have := (ready_last hok hs).2 hall
      rw [h0] at this; cases this
    · obtain ⟨_, o, ho, _⟩ := mem_ready.1 hi
      have hlt : i < init.size + 1 := by simpa using (Array.getElem?_eq_some_iff.1 ho).1
      by_cases e : i = init.size
      · subst e; exact fin 0 listed a w hs hall hq
      · have := (ready_push hok hs (by omega)).1 hi
        rw [hr] at this; cases this
  | succ f ih =>
    intro listed a w hs h
    obtain ⟨h1, h2⟩ := h
    refine ⟨fun h0 => ?_, fun i hi => ?_⟩
    · by_cases hr : Region.ready md init listed = []
      · have := (ready_last hok hs).2 (ready_nil hok hs hr)
        rw [h0] at this; cases this
      · obtain ⟨i, hi⟩ := List.exists_mem_of_ne_nil _ hr
        have hlt : i < init.size := by
          obtain ⟨_, o, ho, _⟩ := mem_ready.1 hi
          exact (Array.getElem?_eq_some_iff.1 ho).1
        have := (ready_push hok hs hlt).2 hi
        rw [h0] at this; cases this
    · obtain ⟨_, o, ho, _⟩ := mem_ready.1 hi
      have hlt : i < init.size + 1 := by simpa using (Array.getElem?_eq_some_iff.1 ho).1
      by_cases e : i = init.size
      · subst e
        have hall := (ready_last hok hs).1 hi
        have hr : Region.ready md init listed = [] := by
          apply List.eq_nil_iff_forall_not_mem.2
          intro k hk
          obtain ⟨g1, o', ho', _⟩ := mem_ready.1 hk
          have := hall k (Array.getElem?_eq_some_iff.1 ho').1
          rw [getD_both g1] at this; cases this
        exact fin (f + 1) listed a w hs hall (h1 hr)
      · have hlt' : i < init.size := by omega
        have h3 := h2 i ((ready_push hok hs hlt').1 hi)
        rw [Array.getElem?_push_lt hlt'] at ho
        unfold wpOp at h3 ⊢
        rw [Array.getElem?_push_lt hlt']
        rw [Array.getElem?_eq_getElem hlt'] at h3
        have hg := guard_at hok (i := i) (o := init[i]) (Array.getElem?_push_lt hlt')
        simp only [wanted_none hg, if_true] at h3 ⊢
        rcases h3 with h3 | h3
        · refine .inl (wp_late (fun a' w' h' => ?_) h3)
          rw [push_set (by omega)]
          exact ih _ a' w' (by simp [hs]) h'
        · exact .inr h3

/-- The region. -/
theorem wp_region_last {id : Nat} {a : Act} {w : World} (hm : P.follows .mixedOrders = true) (hok : lastOk .any init st = true)
    (h : wpAny P .any init (late P st Q) init.size (Array.replicate init.size false) a { w with drawn := w.drawn + 1 }) : (Code.region id (init.push st) true).wp P Q a w := by
  refine wp_region_any hm ?_
  have := wpAny_last hok init.size _ a _ (by simp) h
  rw [Array.size_push]
  have e : (Array.replicate init.size false).push false = Array.replicate (init.size + 1) false := by
    apply Array.ext'
    simp [List.replicate_succ']
  rwa [e] at this

/-- The region, written out, and a condition S on the world that the others keep. -/
theorem wp_region_lastl {id : Nat} {l : List Oper} {a : Act} {w : World} (S : World → Prop) (hne : l ≠ []) (hm : P.follows .mixedOrders = true) (hok : lastOk .any l.dropLast.toArray (l.getLast hne) = true)
    (h : wpAnyH P .any l.dropLast.toArray (late P (l.getLast hne) Q) S l.dropLast.length (Array.replicate l.dropLast.length false) a w.drew) : (Code.region id l.toArray true).wp P Q a w := by
  have e : l.toArray = l.dropLast.toArray.push (l.getLast hne) := by
    rw [List.push_toArray, List.dropLast_concat_getLast]
  rw [e]
  refine wp_region_last hm hok (wpAny_of_held (S := S) _ _ _ _ ?_)
  have e2 : l.dropLast.toArray.size = l.dropLast.length := List.size_toArray
  rw [e2]; exact h

/-- 'wpAnyH_take', the operation's slot handed over. -/
theorem takeH {ops : Array Oper} {S : World → Prop} {fuel : Nat} {listed : Array Bool} {a : Act} {w : World} (i d : Nat) (hi : i < ops.size) {v : Value} (hd : ops[i].dst = some d)
    (hs : Region.noSelect ops = true) (hf : Region.free md ops listed i = true) (hr : (Region.ready md ops listed).contains i = true)
    (hQ : ∀ c a w, Q (.panic c) (a.put (some d) v) w → Q (.panic c) a w) (hg : ops[i].guard.isNone = true) (hy : ∀ w, S w → (execOp a.eval ops[i]).run P w = .ok (.value v) w) (hS : S w)
    (h : wpAnyH P md ops Q S fuel (listed.setIfInBounds i true) (a.put (some d) v) w) : wpAnyH P md ops Q S (fuel + 1) listed a w :=
  wpAnyH_take (i := i) (oi := ops[i]) (v := v) (Array.getElem?_eq_getElem hi) hs hf hr (by rw [hd]; exact hQ) (Or.inl ⟨wanted_none hg, hy⟩) hS (by rw [hd]; exact h)

/-- One operation alone may come up. -/
theorem wpAnyH_one {ops : Array Oper} {S : World → Prop} {fuel : Nat} {listed : Array Bool} {a : Act} {w : World} (i : Nat) (hr : Region.ready md ops listed = [i]) (hi : i < ops.size) (hg : ops[i].guard.isNone = true)
    (h : ∀ K : Act → World → Prop, (∀ a' w', S w' → wpAnyH P md ops Q S fuel (listed.setIfInBounds i true) a' w' → K a' w') → ops[i].wp P a w K Q) : wpAnyH P md ops Q S (fuel + 1) listed a w := by
  refine wpAnyH_all hr (by simp) fun j hj => ?_
  obtain rfl : j = i := by simpa using hj
  unfold wpOp
  rw [Array.getElem?_eq_getElem hi]
  simp only [wanted_none hg, if_true]
  exact .inl (h _ fun a' w' h1 h2 => ⟨h1, h2⟩)
end
end Go.Proofs.Ybulkqpu.mv
