import Derived.Test.YbulkqpuP27
/-! The plain law of 'LawS0852AMove': what the rows are before and after the move. -/
namespace Go.Proofs.Ybulkqpu.mv
open Go.RowKit
set_option linter.unusedVariables false

/-! ### Masks -/
def ef0 (len1 full : Nat) (mk : Nat → Nat) : Nat → Nat := fun i => if i < len1 then mk i &&& full else 0
def ef1 (len1 full p : Nat) (mk : Nat → Nat) : Nat → Nat := fun i => if i = p ∧ ef0 len1 full mk p = 0 then 1 else ef0 len1 full mk i
def efF (len1 full p : Nat) (mk : Nat → Nat) : Nat → Nat := fun i => if i = p ∧ ef1 len1 full p mk p = full then full &&& 253 else ef1 len1 full p mk i

theorem full_lt {nb : Nat} (h : nb ≤ 8) : 2 ^ nb - 1 < 256 := by
  have : 2 ^ nb ≤ 2 ^ 8 := Nat.pow_le_pow_right (by omega) h
  omega
theorem ef0_lt (len1 nb : Nat) (mk : Nat → Nat) (i : Nat) : ef0 len1 (2 ^ nb - 1) mk i < 2 ^ nb := by
  have hp : 0 < 2 ^ nb := Nat.two_pow_pos nb
  unfold ef0
  split
  · have := @Nat.and_le_right (mk i) (2 ^ nb - 1)
    omega
  · exact hp
theorem ef1_lt {nb : Nat} (h : 2 ≤ nb) (len1 p : Nat) (mk : Nat → Nat) (i : Nat) : ef1 len1 (2 ^ nb - 1) p mk i < 2 ^ nb := by
  have hp : 2 ^ 2 ≤ 2 ^ nb := Nat.pow_le_pow_right (by omega) h
  unfold ef1
  split
  · omega
  · exact ef0_lt len1 nb mk i
theorem efF_lt {nb : Nat} (h : 2 ≤ nb) (len1 p : Nat) (mk : Nat → Nat) (i : Nat) : efF len1 (2 ^ nb - 1) p mk i < 2 ^ nb := by
  have hp : 0 < 2 ^ nb := Nat.two_pow_pos nb
  unfold efF
  split
  · have := @Nat.and_le_left (2 ^ nb - 1) 253
    omega
  · exact ef1_lt h len1 p mk i
theorem efF_256 {nb : Nat} (h : 2 ≤ nb) (h8 : nb ≤ 8) (len1 p : Nat) (mk : Nat → Nat) (i : Nat) : efF len1 (2 ^ nb - 1) p mk i < 256 := by
  have : 2 ^ nb ≤ 2 ^ 8 := Nat.pow_le_pow_right (by omega) h8
  have := efF_lt h len1 p mk i
  omega
theorem ef1_ne (len1 full p : Nat) (mk : Nat → Nat) : ef1 len1 full p mk p ≠ 0 := by
  unfold ef1
  split
  · omega
  · rename_i h; exact fun e => h ⟨rfl, e⟩
theorem full253_0 {nb : Nat} (h : 2 ≤ nb) : ((2 ^ nb - 1) &&& 253).testBit 0 = true := by
  rw [Nat.testBit_and, Nat.testBit_two_pow_sub_one]
  have : (decide (0 < nb)) = true := by simp; omega
  rw [this]; decide
theorem full253_1 (nb : Nat) : ((2 ^ nb - 1) &&& 253).testBit 1 = false := by
  rw [Nat.testBit_and]
  have : Nat.testBit 253 1 = false := by decide
  rw [this, Bool.and_false]
theorem efF_ne {nb : Nat} (h : 2 ≤ nb) (len1 p : Nat) (mk : Nat → Nat) : efF len1 (2 ^ nb - 1) p mk p ≠ 0 := by
  unfold efF
  split
  · intro e
    have := full253_0 h
    rw [e] at this
    simp at this
  · exact ef1_ne _ _ _ _
theorem efF_full {nb : Nat} (h : 2 ≤ nb) (len1 p : Nat) (mk : Nat → Nat) : efF len1 (2 ^ nb - 1) p mk p ≠ 2 ^ nb - 1 := by
  unfold efF
  split
  · intro e
    have := full253_1 nb
    rw [e, Nat.testBit_two_pow_sub_one] at this
    simp at this
    omega
  · rename_i hh; exact fun e => hh ⟨rfl, e⟩
theorem some_bit {nb m : Nat} (h : m < 2 ^ nb) (h0 : m ≠ 0) : ∃ b, b < nb ∧ m.testBit b = true := by
  obtain ⟨i, hi⟩ := Nat.exists_testBit_of_ne_zero h0
  refine ⟨i, ?_, hi⟩
  rcases Nat.lt_or_ge i nb with h1 | h1
  · exact h1
  · have : m < 2 ^ i := Nat.lt_of_lt_of_le h (Nat.pow_le_pow_right (by omega) h1)
    rw [Nat.testBit_lt_two_pow this] at hi
    cases hi
theorem some_clear {nb m : Nat} (h : m < 2 ^ nb) (h0 : m ≠ 2 ^ nb - 1) : ∃ b, b < nb ∧ (!m.testBit b) = true := by
  apply Classical.byContradiction
  intro hn
  apply h0
  apply Nat.eq_of_testBit_eq
  intro i
  rw [Nat.testBit_two_pow_sub_one]
  rcases Nat.lt_or_ge i nb with h1 | h1
  · have : decide (i < nb) = true := by simpa using h1
    rw [this]
    apply Classical.byContradiction
    intro h2
    exact hn ⟨i, h1, by simpa using h2⟩
  · have h2 : m < 2 ^ i := Nat.lt_of_lt_of_le h (Nat.pow_le_pow_right (by omega) h1)
    rw [Nat.testBit_lt_two_pow h2]
    simp; omega
theorem pick_pos {n : Nat} {f : Nat → Bool} (h : ∃ b, b < n ∧ f b = true) : 1 ≤ (pick n f).length := by
  obtain ⟨b, h1, h2⟩ := h
  have : b ∈ pick n f := mem_pick.2 ⟨h1, h2⟩
  exact List.length_pos_iff.2 (List.ne_nil_of_mem this)
theorem pick_get {n q x : Nat} {f : Nat → Bool} (h : (pick n f)[q]? = some x) : x < n ∧ f x = true := mem_pick.1 (List.mem_of_getElem? h)

/-! ### Rising lists -/
theorem rise_first {l : List Nat} (hl : l.Pairwise (· < ·)) {k x : Nat} (hk : l[k]? = some x) : ∀ j, j < k → l[j]? ≠ some x := by
  intro j hj e
  obtain ⟨h1, h2⟩ := List.getElem?_eq_some_iff.1 hk
  obtain ⟨h3, h4⟩ := List.getElem?_eq_some_iff.1 e
  have := List.pairwise_iff_getElem.1 hl j k h3 h1 hj
  omega
theorem rise_nodup {l : List Nat} (hl : l.Pairwise (· < ·)) : l.Nodup := hl.imp fun h => by omega
theorem rise_map {l : List Nat} (hl : l.Pairwise (· < ·)) {k x z : Nat} (hk : l[k]? = some x) : l.set k z = l.map fun y => if y = x then z else y := by
  apply List.ext_getElem?
  intro i
  rw [List.getElem?_map]
  obtain ⟨h1, h2⟩ := List.getElem?_eq_some_iff.1 hk
  by_cases e : i = k
  · subst e
    rw [List.getElem?_set_self h1, hk]; simp
  · rw [List.getElem?_set_ne (Ne.symm e)]
    by_cases hi : i < l.length
    · have hne : l[i] ≠ x := by
        intro h3
        rcases Nat.lt_or_gt_of_ne e with h4 | h4
        · have := List.pairwise_iff_getElem.1 hl i k hi h1 h4; omega
        · have := List.pairwise_iff_getElem.1 hl k i h1 hi h4; omega
      rw [List.getElem?_eq_getElem hi]; simp [hne]
    · rw [List.getElem?_eq_none (by omega)]; rfl
theorem cut_perm {l : List Nat} {k x y : Nat} (hk : l[k]? = some x) (hy : l[l.length - 1]? = some y) : (x :: (l.set k y).dropLast).Perm l := by
  obtain ⟨hkl, hkx⟩ := List.getElem?_eq_some_iff.1 hk
  have hne : l ≠ [] := by intro e; subst e; simp at hkl
  obtain ⟨pre, z, rfl⟩ : ∃ pre z, l = pre ++ [z] := ⟨l.dropLast, l.getLast hne, (List.dropLast_concat_getLast hne).symm⟩
  have hzy : z = y := by simpa using hy
  subst hzy
  by_cases e : k = pre.length
  · subst e
    have hx : z = x := by simpa using hk
    subst hx
    rw [List.set_append_right _ _ (Nat.le_refl _)]
    simp
    exact List.perm_append_comm (l₁ := [z])
  · have hk' : k < pre.length := by simp at hkl; omega
    rw [List.set_append_left _ _ hk', List.dropLast_concat]
    have hx : pre[k]? = some x := by rw [List.getElem?_append_left hk'] at hk; exact hk
    obtain ⟨h1, h2⟩ := List.getElem?_eq_some_iff.1 hx
    have e1 : pre = pre.take k ++ x :: pre.drop (k + 1) := by
      rw [← h2, List.getElem_cons_drop, List.take_append_drop]
    have e2 : pre.set k z = pre.take k ++ z :: pre.drop (k + 1) := by
      rw [List.set_eq_take_append_cons_drop, if_pos h1]
    rw [e2]
    refine List.Perm.trans ?_ (by rw [← e1] : (pre.take k ++ x :: pre.drop (k + 1) ++ [z]).Perm (pre ++ [z]))
    have p1 : (pre.take k ++ z :: pre.drop (k + 1)).Perm (z :: (pre.take k ++ pre.drop (k + 1))) := List.perm_middle
    have p2 : (pre.take k ++ x :: pre.drop (k + 1) ++ [z]).Perm (z :: (pre.take k ++ x :: pre.drop (k + 1))) := List.perm_append_comm
    have p3 : (pre.take k ++ x :: pre.drop (k + 1)).Perm (x :: (pre.take k ++ pre.drop (k + 1))) := List.perm_middle
    exact ((p1.cons x).trans (List.Perm.swap _ _ _)).trans ((p3.symm.cons z).trans p2.symm)
theorem cut_mem {l : List Nat} {k x y : Nat} (hd : l.Nodup) (hk : l[k]? = some x) (hy : l[l.length - 1]? = some y) :
    (l.set k y).dropLast.Nodup ∧ ∀ a, a ∈ (l.set k y).dropLast ↔ a ∈ l ∧ a ≠ x := by
  have hp := cut_perm hk hy
  have hn : (x :: (l.set k y).dropLast).Nodup := hp.nodup_iff.2 hd
  obtain ⟨h1, h2⟩ := List.nodup_cons.1 hn
  refine ⟨h2, fun a => ?_⟩
  rw [← hp.mem_iff, List.mem_cons]
  constructor
  · exact fun h => ⟨.inr h, fun e => h1 (e ▸ h)⟩
  · rintro ⟨h | h, h3⟩
    · exact absurd h h3
    · exact h

/-! ### The turned mask -/
theorem bit255 {f b : Nat} (hf : f < 8) (hb : b < 8) : (255 - 2 ^ f).testBit b = decide (b ≠ f) := by
  have : ∀ f, f < 8 → ∀ b, b < 8 → (255 - 2 ^ f).testBit b = decide (b ≠ f) := by decide
  exact this f hf b hb
theorem turn_bit {m fm to b : Nat} (hf : fm < 8) (hb : b < 8) : ((m &&& (255 - 2 ^ fm)) ||| 2 ^ to).testBit b = ((m.testBit b && decide (b ≠ fm)) || decide (to = b)) := by
  rw [Nat.testBit_or, Nat.testBit_and, bit255 hf hb, Nat.testBit_two_pow]
theorem turn_lt {m fm to : Nat} (hm : m < 256) (ht : to < 8) : (m &&& (255 - 2 ^ fm)) ||| 2 ^ to < 256 := by
  have h1 : m &&& (255 - 2 ^ fm) < 2 ^ 8 := Nat.lt_of_le_of_lt Nat.and_le_left hm
  have h2 : 2 ^ to < 2 ^ 8 := Nat.pow_lt_pow_right (by omega) ht
  exact Nat.or_lt_two_pow h1 h2
def efT (ef : Nat → Nat) (p fm to : Nat) : Nat → Nat := fun i => if i = p then (ef p &&& (255 - 2 ^ fm)) ||| 2 ^ to else ef i
theorem efT_lt {ef : Nat → Nat} {p fm to : Nat} (h : ∀ i, ef i < 256) (ht : to < 8) (i : Nat) : efT ef p fm to i < 256 := by
  unfold efT; split
  · exact turn_lt (h p) ht
  · exact h i
theorem efT_bit {ef : Nat → Nat} {p fm to i b : Nat} (hf : fm < 8) (hb : b < 8) : (efT ef p fm to i).testBit b = if i = p then (((ef p).testBit b && decide (b ≠ fm)) || decide (to = b)) else (ef i).testBit b := by
  unfold efT; split
  · exact turn_bit hf hb
  · rfl

/-! ### The rows behind the move -/
def rowsM (np : Nat) (xs : Nat → List Nat) (p fm to kf kp y : Nat) : Nat → List Nat :=
  upd (upd (upd xs p ((xs p).set kf to)) (np + fm) ((xs (np + fm)).set kp y).dropLast) (np + to) (xs (np + to) ++ [p])
section
variable {np nb p fm to kf kp y : Nat} {ef : Nat → Nat}
theorem rowsF_p {j : Nat} (hj : j < np) : rowsF np nb ef j = pick nb fun c => (ef j).testBit c := if_pos hj
theorem rowsF_b {b : Nat} : rowsF np nb ef (np + b) = pick np fun k => (ef k).testBit b := by
  unfold rowsF; rw [if_neg (by omega)]
  congr 1; funext k; congr 1; omega
theorem rowsM_p (hp : p < np) (hkf : (rowsF np nb ef p)[kf]? = some fm) : rowsM np (rowsF np nb ef) p fm to kf kp y p = (pick nb fun c => (ef p).testBit c).map fun x => if x = fm then to else x := by
  unfold rowsM
  rw [upd_ne _ _ _ (by omega), upd_ne _ _ _ (by omega), upd_same]
  rw [rowsF_p hp] at hkf ⊢
  exact rise_map (pick_rise _ _) hkf
theorem rowsM_i {i : Nat} (hi : i < np) (hne : i ≠ p) : rowsM np (rowsF np nb ef) p fm to kf kp y i = pick nb fun c => (ef i).testBit c := by
  unfold rowsM
  rw [upd_ne _ _ _ (by omega), upd_ne _ _ _ (by omega), upd_ne _ _ _ hne, rowsF_p hi]
theorem rowsM_b (hp : p < np) (hnb : nb ≤ 8) (hfm : fm < nb) (hto : to < nb) (hne : fm ≠ to) (hT : (ef p).testBit to = false)
    (hkp : (rowsF np nb ef (np + fm))[kp]? = some p) (hy : (rowsF np nb ef (np + fm))[(rowsF np nb ef (np + fm)).length - 1]? = some y) {b : Nat} (hb : b < nb) :
    (rowsM np (rowsF np nb ef) p fm to kf kp y (np + b)).Perm (pick np fun i => (efT ef p fm to i).testBit b) := by
  unfold rowsM
  by_cases e1 : b = to
  · subst e1
    rw [upd_same, rowsF_b]
    have hnp : p ∉ pick np fun k => (ef k).testBit b := fun h => by rw [mem_pick] at h; rw [hT] at h; cases h.2
    refine (List.perm_ext_iff_of_nodup ?_ (rise_nodup (pick_rise _ _))).2 fun a => ?_
    · exact (List.perm_append_comm.nodup_iff (l₁ := [p] ++ pick np fun k => (ef k).testBit b)).1 (List.nodup_cons.2 ⟨hnp, rise_nodup (pick_rise _ _)⟩)
    · rw [List.mem_append, mem_pick, mem_pick, List.mem_singleton, efT_bit (by omega) (by omega)]
      by_cases ea : a = p
      · subst ea; simp [hp]
      · simp [ea]
  · rw [upd_ne _ _ _ (by omega)]
    by_cases e2 : b = fm
    · subst e2
      rw [upd_same]
      rw [rowsF_b] at hkp hy ⊢
      obtain ⟨c1, c2⟩ := cut_mem (rise_nodup (pick_rise _ _)) hkp hy
      refine (List.perm_ext_iff_of_nodup c1 (rise_nodup (pick_rise _ _))).2 fun a => ?_
      rw [c2, mem_pick, mem_pick, efT_bit (by omega) (by omega)]
      by_cases ea : a = p
      · subst ea; simp [Ne.symm e1]
      · simp [ea]
    · rw [upd_ne _ _ _ (by omega), upd_ne _ _ _ (by omega), rowsF_b]
      refine (List.perm_ext_iff_of_nodup (rise_nodup (pick_rise _ _)) (rise_nodup (pick_rise _ _))).2 fun a => ?_
      rw [mem_pick, mem_pick, efT_bit (by omega) (by omega)]
      by_cases ea : a = p
      · subst ea; simp [e2, Ne.symm e1]
      · simp [ea]
theorem rowsF_len (hnp : np ≤ 1024) (hnb : nb ≤ 8) (j : Nat) : (rowsF np nb ef j).length ≤ 1999 := by
  unfold rowsF
  split
  · have := pick_len nb fun c => (ef j).testBit c; omega
  · have := pick_len np fun k => (ef k).testBit (j - np); omega
end
end Go.Proofs.Ybulkqpu.mv
