import Derived.Test.YbulkqwgFmtD4
namespace Go.Proofs.YbulkqwgFmt.sp
open Go.RowKit Go.MuLone Go.Extern.Stop Go.Stop Go.Extern
set_option linter.unusedVariables false
set_option maxRecDepth 100000

/-- A partition of ng groups of gs records: k groups are taken, l records are left of the last; r: the next record's number. -/
def Reach (gs ng r k l : Nat) : Prop := (k = 0 ∧ l = 0 ∧ r = 1) ∨ (1 ≤ k ∧ k ≤ ng ∧ l < gs ∧ r + l = k * gs ∧ 2 ≤ r)
section
variable {gs ng r k l : Nat}
theorem Reach.le (h : Reach gs ng r k l) (hg : 2 ≤ gs) (hn : 1 ≤ ng) : r ≤ ng * gs := by
  rcases h with ⟨_, _, rfl⟩ | ⟨_, h2, _, h4, _⟩
  · exact Nat.mul_pos (by omega) (by omega)
  · have := Nat.mul_le_mul_right gs h2; omega
theorem Reach.mk (h : Reach gs ng r k l) : k ≤ ng ∨ k = 0 := by
  rcases h with ⟨h, _⟩ | ⟨_, h, _⟩
  · exact .inr h
  · exact .inl h
/-- A record is left. -/
theorem Reach.next (h : Reach gs ng r k l) (hl : 1 ≤ l) : Reach gs ng (r + 1) k (l - 1) ∧ r ≠ 1 ∧ r % gs ≠ 0 ∧ 1 ≤ k := by
  rcases h with ⟨_, h, _⟩ | ⟨h1, h2, h3, h4, h5⟩
  · omega
  · refine ⟨.inr ⟨h1, h2, by omega, by omega, by omega⟩, by omega, ?_, h1⟩
    intro e
    have e1 := Nat.div_add_mod r gs
    rw [e, Nat.add_zero] at e1
    have e2 : k * gs = gs * k := Nat.mul_comm _ _
    rw [e2] at h4
    have h6 : gs * (r / gs) + l = gs * k := by rw [e1]; exact h4
    have h7 : l = gs * (k - r / gs) := by rw [Nat.mul_sub]; omega
    rcases Nat.eq_zero_or_pos (k - r / gs) with e3 | e3
    · rw [e3] at h7; omega
    · have := Nat.mul_le_mul_left gs e3; omega
/-- None is left; a group is. -/
theorem Reach.group (h : Reach gs ng r k 0) (hg : 2 ≤ gs) (hn : 1 ≤ ng) (hr : r < ng * gs) :
    k < ng ∧ Reach gs ng (r + 1) (k + 1) ((if k = 0 then gs - 1 else gs) - 1) ∧ (r = 1 ∨ r % gs = 0) ∧ r = (if k = 0 then 1 else k * gs) := by
  rcases h with ⟨rfl, _, rfl⟩ | ⟨h1, h2, h3, h4, h5⟩
  · exact ⟨by omega, .inr ⟨by omega, by omega, by simp; omega, by simp; omega, by omega⟩, .inl rfl, rfl⟩
  · have hk : k < ng := by
      rcases Nat.lt_or_ge k ng with h | h
      · exact h
      · have := Nat.mul_le_mul_right gs h; omega
    refine ⟨hk, .inr ⟨by omega, by omega, ?_, ?_, by omega⟩, .inr ?_, ?_⟩
    · rw [if_neg (by omega)]; omega
    · rw [if_neg (by omega), Nat.add_mul, Nat.one_mul]; omega
    · rw [show r = k * gs by omega, Nat.mul_mod_left]
    · rw [if_neg (by omega)]; omega
/-- All is taken. -/
theorem Reach.full (h : Reach gs ng r k l) (hg : 2 ≤ gs) (hn : 1 ≤ ng) (hr : r = ng * gs) : k = ng ∧ l = 0 := by
  rcases h with ⟨rfl, _, h⟩ | ⟨h1, h2, h3, h4, h5⟩
  · have := Nat.mul_le_mul_right gs hn; omega
  · have hk : k = ng := by
      rcases Nat.lt_or_ge k ng with h | h
      · have := Nat.mul_le_mul_right gs (Nat.succ_le_of_lt h)
        rw [Nat.succ_mul] at this; omega
      · omega
    subst hk
    exact ⟨rfl, by omega⟩
end
/-- The entry of a partition, where records are left. -/
def entry (q : ByteArray) (x l : Nat) : List Ent := if l = 0 then [] else [(q, x, l)]
theorem entry_len (q : ByteArray) (x l : Nat) : (entry q x l).length ≤ 1 := by unfold entry; split <;> simp
theorem entry_took {q : ByteArray} {x l : Nat} (hl : 1 ≤ l) : took (entry q x l) 0 = entry q (x + 1) (l - 1) := by
  have e : entry q x l = [(q, x, l)] := if_neg (by omega)
  rw [e]
  by_cases h : l = 1
  · subst h; rfl
  · have e2 : entry q (x + 1) (l - 1) = [(q, x + 1, l - 1)] := if_neg (by omega)
    rw [e2]
    unfold took
    rw [if_neg (by simpa using h)]
    rfl
theorem entry_hit {q : ByteArray} {x l : Nat} (hl : 1 ≤ l) : Hit (entry q x l) q 0 ∧ (entry q x l).getD 0 default = (q, x, l) := by
  unfold entry
  rw [if_neg (by omega)]
  exact ⟨⟨by simp, by simp, fun j hj => absurd hj (by omega)⟩, rfl⟩
theorem miss_nil (q : ByteArray) : Miss [] q := fun j hj => absurd hj (by simp)


/-! ### The entries of two partitions, in either order -/
def Both (es e f : List Ent) : Prop := es = e ++ f ∨ es = f ++ e
theorem Both.swap {es e f : List Ent} (h : Both es e f) : Both es f e := h.symm
section
variable {p q : ByteArray} {x y l m : Nat} {es : List Ent}
theorem entry_some (hl : 1 ≤ l) : entry p x l = [(p, x, l)] := if_neg (by omega)
theorem took0 (e : List Ent) (hl : 1 ≤ l) : took ((p, x, l) :: e) 0 = entry p (x + 1) (l - 1) ++ e := by
  by_cases h : l = 1
  · subst h; rfl
  · rw [entry_some (by omega)]
    unfold took
    rw [if_neg (by simpa using h)]
    rfl
theorem took1 (a : Ent) (hl : 1 ≤ l) : took [a, (p, x, l)] 1 = [a] ++ entry p (x + 1) (l - 1) := by
  by_cases h : l = 1
  · subst h; rfl
  · rw [entry_some (by omega)]
    unfold took
    rw [if_neg (by simpa using h)]
    rfl
theorem Both.hit (hpq : (q.toList == p.toList) = false) (hl : 1 ≤ l) (h : Both es (entry p x l) (entry q y m)) :
    ∃ r, Hit es p r ∧ es.getD r default = (p, x, l) ∧ Both (took es r) (entry p (x + 1) (l - 1)) (entry q y m) := by
  rw [entry_some hl] at h
  rcases h with rfl | rfl
  · exact ⟨0, ⟨by simp, by simp, fun j hj => absurd hj (by omega)⟩, rfl, .inl (took0 _ hl)⟩
  · by_cases hm : m = 0
    · subst hm
      exact ⟨0, ⟨by simp [entry], by simp [entry], fun j hj => absurd hj (by omega)⟩, rfl, .inr (by have := took0 (p := p) (x := x) [] hl; simpa [entry] using this)⟩
    · have e : entry q y m = [(q, y, m)] := entry_some (by omega)
      rw [e]
      refine ⟨1, ⟨by simp, by simp, fun j hj => ?_⟩, rfl, .inr (took1 _ hl)⟩
      obtain rfl : j = 0 := by omega
      simpa using hpq
theorem Both.miss (hpq : (q.toList == p.toList) = false) (h : Both es (entry p x 0) (entry q y m)) : es = entry q y m ∧ Miss es p ∧ es.length ≤ 1 := by
  have e : entry p x 0 = [] := rfl
  rw [e] at h
  have h1 : es = entry q y m := by rcases h with h | h <;> simpa using h
  refine ⟨h1, ?_, by rw [h1]; exact entry_len _ _ _⟩
  intro j hj
  rw [h1] at hj ⊢
  have := entry_len q y m
  obtain rfl : j = 0 := by omega
  unfold entry at hj ⊢
  split at hj
  · simp at hj
  · rename_i hm
    rw [if_neg hm]
    simpa using hpq
end
end Go.Proofs.YbulkqwgFmt.sp
