import Derived.Test.YbulkqpuMem
/-! The plain side: which rows stand when. -/
namespace Go.Proofs.Ybulkqpu.mv
open Go.RowKit
set_option linter.unusedVariables false

theorem hid {p : Prop} (h : p) : Hid p := h

theorem div_cast (m b : Nat) : ((m : Int) / 2 ^ b) = ((m / 2 ^ b : Nat) : Int) := by
  rw [Int.natCast_ediv, Int.natCast_pow]; rfl
theorem bit_one (m b : Nat) (hm : m < 256) : (bits .and .u8 ((m : Int) / 2 ^ b) 1 == 1) = m.testBit b := by
  have h1 : m / 2 ^ b < 256 := Nat.lt_of_le_of_lt (Nat.div_le_self _ _) hm
  have h2 := u8_and_nat (m / 2 ^ b) 1 h1 (by omega)
  rw [div_cast, show (1 : Int) = ((1 : Nat) : Int) from rfl, h2, Nat.and_one_is_mod, Nat.testBit_eq_decide_div_mod_eq]
  by_cases h : m / 2 ^ b % 2 = 1
  · rw [h]; simp
  · have : m / 2 ^ b % 2 = 0 := by omega
    rw [this]; simp
theorem bit_zero (m b : Nat) (hm : m < 256) : (bits .and .u8 ((m : Int) / 2 ^ b) 1 == 0) = !m.testBit b := by
  have h1 : m / 2 ^ b < 256 := Nat.lt_of_le_of_lt (Nat.div_le_self _ _) hm
  have h2 := u8_and_nat (m / 2 ^ b) 1 h1 (by omega)
  rw [div_cast, show (1 : Int) = ((1 : Nat) : Int) from rfl, h2, Nat.and_one_is_mod, Nat.testBit_eq_decide_div_mod_eq]
  by_cases h : m / 2 ^ b % 2 = 1
  · rw [h]; simp
  · have : m / 2 ^ b % 2 = 0 := by omega
    rw [this]; simp

/-- The numbers below n that f picks, rising. -/
def pick (n : Nat) (f : Nat → Bool) : List Nat := (List.range n).filter f
theorem pick_zero (f : Nat → Bool) : pick 0 f = [] := rfl
theorem pick_succ (n : Nat) (f : Nat → Bool) : pick (n + 1) f = pick n f ++ (if f n then [n] else []) := by
  unfold pick
  rw [List.range_succ, List.filter_append]
  cases h : f n <;> simp [h]
theorem pick_yes {n : Nat} {f : Nat → Bool} (h : f n = true) : pick (n + 1) f = pick n f ++ [n] := by rw [pick_succ, h]; rfl
theorem pick_no {n : Nat} {f : Nat → Bool} (h : f n = false) : pick (n + 1) f = pick n f := by rw [pick_succ, h]; simp
theorem pick_len (n : Nat) (f : Nat → Bool) : (pick n f).length ≤ n := by
  have := List.length_filter_le f (List.range n)
  simpa [pick] using this
theorem mem_pick {n k : Nat} {f : Nat → Bool} : k ∈ pick n f ↔ k < n ∧ f k = true := by simp [pick]

def rowsAt (np nb : Nat) (ef : Nat → Nat) (i b : Nat) : Nat → List Nat := fun j =>
  if j < np then pick (if j < i then nb else if j = i then b else 0) fun c => (ef j).testBit c
  else pick (if j - np < b then i + 1 else i) fun k => (ef k).testBit (j - np)
/-- The rows when all are laid: a partition's brokers, a broker's partitions. -/
def rowsF (np nb : Nat) (ef : Nat → Nat) : Nat → List Nat := fun j =>
  if j < np then pick nb fun c => (ef j).testBit c else pick np fun k => (ef k).testBit (j - np)

section
variable {np nb : Nat} {ef : Nat → Nat} {i b j : Nat}
theorem rowsAt_start : rowsAt np nb ef 0 0 j = [] := by
  unfold rowsAt
  by_cases h : j < np
  · rw [if_pos h, if_neg (by omega)]
    by_cases h0 : j = 0
    · rw [if_pos h0]; rfl
    · rw [if_neg h0]; rfl
  · rw [if_neg h, if_neg (by omega)]; rfl
theorem rowsAt_next (hj : j < np + nb) : rowsAt np nb ef i nb j = rowsAt np nb ef (i + 1) 0 j := by
  unfold rowsAt
  by_cases h : j < np
  · rw [if_pos h, if_pos h]
    by_cases h1 : j < i
    · rw [if_pos h1, if_pos (by omega)]
    · by_cases h2 : j = i
      · rw [if_neg h1, if_pos h2, if_pos (by omega)]
      · rw [if_neg h1, if_neg h2, if_neg (by omega)]
        by_cases h3 : j = i + 1
        · rw [if_pos h3]
        · rw [if_neg h3]
  · rw [if_neg h, if_neg h, if_pos (by omega), if_neg (by omega)]
theorem rowsAt_end (hj : j < np + nb) : rowsAt np nb ef np 0 j = rowsF np nb ef j := by
  unfold rowsAt rowsF
  by_cases h : j < np
  · rw [if_pos h, if_pos h, if_pos h]
  · rw [if_neg h, if_neg h, if_neg (by omega)]
theorem rowsAt_skip (hi : i < np) (h : (ef i).testBit b = false) : rowsAt np nb ef i (b + 1) j = rowsAt np nb ef i b j := by
  unfold rowsAt
  by_cases hj : j < np
  · rw [if_pos hj, if_pos hj]
    by_cases h1 : j < i
    · rw [if_pos h1, if_pos h1]
    · rw [if_neg h1, if_neg h1]
      by_cases h2 : j = i
      · rw [if_pos h2, if_pos h2]; subst h2; exact pick_no h
      · rw [if_neg h2, if_neg h2]
  · rw [if_neg hj, if_neg hj]
    by_cases h1 : j - np < b
    · rw [if_pos h1, if_pos (by omega)]
    · rw [if_neg h1]
      by_cases h2 : j - np = b
      · rw [if_pos (by omega)]; exact pick_no (by rw [h2]; exact h)
      · rw [if_neg (by omega)]
theorem rowsAt_hit (hi : i < np) (h : (ef i).testBit b = true) :
    upd (upd (rowsAt np nb ef i b) i (rowsAt np nb ef i b i ++ [b])) (np + b) (upd (rowsAt np nb ef i b) i (rowsAt np nb ef i b i ++ [b]) (np + b) ++ [i]) j = rowsAt np nb ef i (b + 1) j := by
  by_cases h1 : j = np + b
  · subst h1
    rw [upd_same, upd_ne _ _ _ (by omega)]
    unfold rowsAt
    rw [if_neg (by omega), if_neg (by omega), if_neg (by omega), if_pos (by omega)]
    exact (pick_yes (by rw [Nat.add_sub_cancel_left]; exact h)).symm
  · rw [upd_ne _ _ _ h1]
    by_cases h2 : j = i
    · subst h2
      rw [upd_same]
      unfold rowsAt
      rw [if_pos hi, if_pos hi, if_neg (Nat.lt_irrefl _), if_neg (Nat.lt_irrefl _)]
      simp only [if_true]
      exact (pick_yes h).symm
    · rw [upd_ne _ _ _ h2]
      unfold rowsAt
      by_cases hj : j < np
      · rw [if_pos hj, if_pos hj, if_neg h2, if_neg h2]
      · rw [if_neg hj, if_neg hj]
        by_cases h3 : j - np < b
        · rw [if_pos h3, if_pos (by omega)]
        · rw [if_neg h3, if_neg (by omega)]
theorem rowsAt_len (hi : i < np) (hb : b < nb) (hnp : np ≤ 1024) (hnb : nb ≤ 8) : (rowsAt np nb ef i b j).length ≤ 1999 := by
  unfold rowsAt
  split
  · refine Nat.le_trans (pick_len _ _) ?_
    split
    · omega
    · split <;> omega
  · refine Nat.le_trans (pick_len _ _) ?_
    split <;> omega
end
end Go.Proofs.Ybulkqpu.mv
