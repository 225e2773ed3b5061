import Derived.Test.YbulkqwgFmtC17
import Derived.Test.YbulkqwgFmtIs
namespace Go.Proofs.YbulkqwgFmt.sp
open Go.RowKit Go.MuLone
set_option linter.unusedVariables false
set_option maxRecDepth 1000000

/-- A partition of ng groups of gs records: k groups are taken, l records are left of the last; r: the next record's number. -/
def Reach (gs ng r k l : Nat) : Prop := (k = 0 ∧ l = 0 ∧ r = 1) ∨ (1 ≤ k ∧ k ≤ ng ∧ l < gs ∧ r + l = k * gs ∧ 2 ≤ r)
section
variable {gs ng r k l : Nat}
theorem Reach.le (h : Reach gs ng r k l) (hg : 2 ≤ gs) (hn : 1 ≤ ng) : r ≤ ng * gs := by
  rcases h with ⟨_, _, rfl⟩ | ⟨_, h2, _, h4, _⟩
  · exact Nat.mul_pos (by omega) (by omega)
  · have := Nat.mul_le_mul_right gs h2; omega
theorem Reach.mk (h : Reach gs ng r k l) : k ≤ ng ∨ k = 0 := by
  rcases h with ⟨h, _⟩ | ⟨_, h, _⟩
  · exact .inr h
  · exact .inl h
/-- A record is left. -/
theorem Reach.next (h : Reach gs ng r k l) (hl : 1 ≤ l) : Reach gs ng (r + 1) k (l - 1) ∧ r ≠ 1 ∧ r % gs ≠ 0 ∧ 1 ≤ k := by
  rcases h with ⟨_, h, _⟩ | ⟨h1, h2, h3, h4, h5⟩
  · omega
  · refine ⟨.inr ⟨h1, h2, by omega, by omega, by omega⟩, by omega, ?_, h1⟩
    intro e
    have e1 := Nat.div_add_mod r gs
    rw [e, Nat.add_zero] at e1
    have e2 : k * gs = gs * k := Nat.mul_comm _ _
    rw [e2] at h4
    have h6 : gs * (r / gs) + l = gs * k := by rw [e1]; exact h4
    have h7 : l = gs * (k - r / gs) := by rw [Nat.mul_sub]; omega
    rcases Nat.eq_zero_or_pos (k - r / gs) with e3 | e3
    · rw [e3] at h7; omega
    · have := Nat.mul_le_mul_left gs e3; omega
/-- None is left; a group is. -/
theorem Reach.group (h : Reach gs ng r k 0) (hg : 2 ≤ gs) (hn : 1 ≤ ng) (hr : r < ng * gs) :
    k < ng ∧ Reach gs ng (r + 1) (k + 1) ((if k = 0 then gs - 1 else gs) - 1) ∧ (r = 1 ∨ r % gs = 0) ∧ r = (if k = 0 then 1 else k * gs) := by
  rcases h with ⟨rfl, _, rfl⟩ | ⟨h1, h2, h3, h4, h5⟩
  · exact ⟨by omega, .inr ⟨by omega, by omega, by simp; omega, by simp; omega, by omega⟩, .inl rfl, rfl⟩
  · have hk : k < ng := by
      rcases Nat.lt_or_ge k ng with h | h
      · exact h
      · have := Nat.mul_le_mul_right gs h; omega
    refine ⟨hk, .inr ⟨by omega, by omega, ?_, ?_, by omega⟩, .inr ?_, ?_⟩
    · rw [if_neg (by omega)]; omega
    · rw [if_neg (by omega), Nat.add_mul, Nat.one_mul]; omega
    · rw [show r = k * gs by omega, Nat.mul_mod_left]
    · rw [if_neg (by omega)]; omega
/-- All is taken. -/
theorem Reach.full (h : Reach gs ng r k l) (hg : 2 ≤ gs) (hn : 1 ≤ ng) (hr : r = ng * gs) : k = ng ∧ l = 0 := by
  rcases h with ⟨rfl, _, h⟩ | ⟨h1, h2, h3, h4, h5⟩
  · have := Nat.mul_le_mul_right gs hn; omega
  · have hk : k = ng := by
      rcases Nat.lt_or_ge k ng with h | h
      · have := Nat.mul_le_mul_right gs (Nat.succ_le_of_lt h)
        rw [Nat.succ_mul] at this; omega
      · omega
    subst hk
    exact ⟨rfl, by omega⟩
end
/-- The entry of a partition, where records are left. -/
def entry (q : ByteArray) (x l : Nat) : List Ent := if l = 0 then [] else [(q, x, l)]
theorem entry_len (q : ByteArray) (x l : Nat) : (entry q x l).length ≤ 1 := by unfold entry; split <;> simp
theorem entry_took {q : ByteArray} {x l : Nat} (hl : 1 ≤ l) : took (entry q x l) 0 = entry q (x + 1) (l - 1) := by
  have e : entry q x l = [(q, x, l)] := if_neg (by omega)
  rw [e]
  by_cases h : l = 1
  · subst h; rfl
  · have e2 : entry q (x + 1) (l - 1) = [(q, x + 1, l - 1)] := if_neg (by omega)
    rw [e2]
    unfold took
    rw [if_neg (by simpa using h)]
    rfl
theorem entry_hit {q : ByteArray} {x l : Nat} (hl : 1 ≤ l) : Hit (entry q x l) q 0 ∧ (entry q x l).getD 0 default = (q, x, l) := by
  unfold entry
  rw [if_neg (by omega)]
  exact ⟨⟨by simp, by simp, fun j hj => absurd hj (by omega)⟩, rfl⟩
theorem miss_nil (q : ByteArray) : Miss [] q := fun j hj => absurd hj (by simp)

/-- Where the law's loop stands: r the next record's number. -/
structure Seq (b gs ng : Nat) (aF : Addr) (r k l : Nat) (w0 w : World) : Prop where
  reach : Reach gs ng r k l
  mem : ∃ gv fv gl, Space b gs ng 1 k 0 aF gv fv gl (entry { data := #[] } r l) w ∧ gl.length = k ∧ ∀ j, j < gl.length → (gl.getD j default).1 = 0
  chg : Chg (fun x => b ≤ x) w0 w

section
variable {b gs ng r k l : Nat} {aF : Addr} {cv : Value} {w0 w : World}
/-- 'space.record' of the default partition, where a record can be had. -/
theorem Seq.record (h : Seq b gs ng aF r k l w0 w) (hg : 2 ≤ gs) (hg2 : gs ≤ 9) (hn : 1 ≤ ng) (hn2 : ng ≤ 5) (hr : r < ng * gs) :
    ∃ k' l', (k' = if r = 1 ∨ r % gs = 0 then k + 1 else k) ∧ Calls Ybaf.prog 6 #[.pointer (some ⟨b + 13, 0, none⟩), cv, .string { data := #[] }] w fun e w' => e = .returned (.tuple #[.int .u64 (r : Int), .nilIface]) ∧ Seq b gs ng aF (r + 1) k' l' w0 w' := by
  obtain ⟨gv, fv, gl, hsp, hgl, hgf⟩ := h.mem
  have hr45 : r ≤ 45 := by have := Nat.mul_le_mul hn2 hg2; omega
  by_cases hl : l = 0
  · subst hl
    obtain ⟨g1, g2, g3, g4⟩ := h.reach.group hg hn hr
    refine ⟨k + 1, (if k = 0 then gs - 1 else gs) - 1, by rw [if_pos g3], ?_⟩
    have hk5 : k ≤ 4 := by omega
    have hnn : 1 ≤ (if k = 0 then gs - 1 else gs) ∧ (if k = 0 then gs - 1 else gs) ≤ 9 := by split <;> omega
    have he : entry { data := #[] } r 0 = [] := rfl
    rw [he] at hsp
    refine (record6_take (k0' := k + 1) (k1' := 0) (f := 0) (k := k) (fst := r) (n := if k = 0 then gs - 1 else gs) rfl (miss_nil _) (by simp) (by omega) hnn.1 hnn.2 (by rw [g4]; split; omega; exact Nat.mul_pos (by omega) (by omega)) (by omega) hsp ?_ ?_).mono ?_
    · intro w hs
      refine (group13_A g1 hs.sp).mono ?_
      rintro e w' ⟨rfl, h1, h2⟩
      refine ⟨rfl, ⟨h1, hs.S.chg h2 ?_, owns_chg hs.groups h2 ?_, hs.free.chg h2 ?_, hs.apart, hs.two⟩, h2⟩
      · rintro ⟨_, h⟩; omega
      · rintro g hg ⟨_, h3⟩; have := (owns_lt hs.groups hg).1; omega
      · rintro g hg ⟨_, h3⟩; have := (hs.free.lt hg).1; omega
    · intro w hc
      by_cases h0 : k = 0
      · subst h0
        have e1 : r = 1 := g4
        have e2 : (((if (0 : Nat) = 0 then gs - 1 else gs) : Nat) : Int) = (gs : Int) - 1 := by rw [if_pos rfl]; omega
        rw [e1, e2]
        exact rec15_0 (i := 0) hg hg2 hc (fun w => addr27_0 (r := 1) (by omega))
      · have e1 : k * gs = r := by rw [g4, if_neg h0]
        rw [if_neg h0]
        exact rec15_k hg hg2 (by omega) (by omega) e1 hc (fun w => addr27_0 (by omega))
    · rintro e w' ⟨rfl, ⟨gv', fv', h1⟩, h2⟩
      refine ⟨rfl, g2, ⟨gv', fv', gl ++ [(0, k)], ?_, by simp [hgl], ?_⟩, h.chg.trans h2⟩
      · have key : ∀ N : Nat, 1 ≤ N → (if N = 1 then ([] : List Ent) else [] ++ [({ data := #[] }, r + 1, N - 1)]) = entry { data := #[] } (r + 1) (N - 1) := fun N hN => by
          unfold entry
          by_cases e : N = 1
          · rw [if_pos e, if_pos (by omega)]
          · rw [if_neg e, if_neg (by omega)]; rfl
        rw [← key _ hnn.1]; exact h1
      · intro j hj
        by_cases e : j < gl.length
        · rw [List.getD, List.getElem?_append_left e, ← List.getD]; exact hgf j e
        · have e1 : j = gl.length := by rw [List.length_append, List.length_singleton] at hj; omega
          subst e1; simp
  · obtain ⟨g1, g2, g3, g4⟩ := h.reach.next (by omega : 1 ≤ l)
    refine ⟨k, l - 1, by rw [if_neg (by omega)], ?_⟩
    have hl9 : l ≤ 9 := by
      rcases h.reach with ⟨_, h, _⟩ | ⟨_, _, h, _⟩
      · omega
      · omega
    have hr1 : 1 ≤ r := by
      rcases h.reach with ⟨_, _, h⟩ | ⟨_, _, _, _, h⟩ <;> omega
    obtain ⟨hh, he⟩ := entry_hit (q := { data := #[] }) (x := r) (by omega : 1 ≤ l)
    refine (record6_hit hh he (by omega) hl9 hr1 (by omega) hsp).mono ?_
    rintro e w' ⟨rfl, ⟨fv', h1⟩, h2⟩
    refine ⟨rfl, g1, ⟨gv, fv', gl, ?_, hgl, hgf⟩, h.chg.trans h2⟩
    rw [entry_took (by omega)] at h1
    exact h1
/-- .. and where none can be. -/
theorem Seq.full (h : Seq b gs ng aF r k l w0 w) (hg : 2 ≤ gs) (hn : 1 ≤ ng) (hr : r = ng * gs) :
    Calls Ybaf.prog 6 #[.pointer (some ⟨b + 13, 0, none⟩), cv, .string { data := #[] }] w fun e w' => e = .returned (.tuple #[.int .u64 0, .iface 93 (.pointer (some aF))]) ∧ Seq b gs ng aF r k l w0 w' := by
  obtain ⟨gv, fv, gl, hsp, hgl, hgf⟩ := h.mem
  obtain ⟨rfl, rfl⟩ := h.reach.full hg hn hr
  have he : entry { data := #[] } r 0 = [] := rfl
  rw [he] at hsp
  refine (record6_full (miss_nil _) hsp).mono ?_
  rintro e w' ⟨rfl, h1, h2⟩
  exact ⟨rfl, h.reach, ⟨gv, fv, gl, h1, hgl, hgf⟩, h.chg.trans h2⟩
end
end Go.Proofs.YbulkqwgFmt.sp
