import Derived.Test.YbulkqwgFmtD5
namespace Go.Proofs.YbulkqwgFmt.sp
open Go.RowKit Go.MuLone Go.Extern.Stop Go.Stop Go.Extern
set_option linter.unusedVariables false
set_option maxRecDepth 100000

abbrev nmA : ByteArray := { data := #[] }
abbrev nmB : ByteArray := { data := #[66] }
theorem neBA : (nmB.toList == nmA.toList) = false := by kernel_rfl
theorem neAB : (nmA.toList == nmB.toList) = false := by kernel_rfl
/-- Where the law's loop stands: r0, r1 the next records' numbers, n the ctx's calls. -/
structure Two (b gs n0 n1 : Nat) (aF : Addr) (r0 k0 l0 r1 k1 l1 n : Nat) (w0 w : World) : Prop where
  re0 : Reach gs n0 r0 k0 l0
  re1 : Reach gs n1 r1 k1 l1
  mem : ∃ gv fv gl es, Space b (b + 17) gs n0 n1 k0 k1 aF gv fv gl es w ∧ Both es (entry nmA r0 l0) (entry nmB (4294967296 + r1) l1) ∧ gl.length = k0 + k1 ∧ cnt 0 gl = k0 ∧ cnt 1 gl = k1 ∧ ∀ j, j < gl.length → (gl.getD j default).1 = 0 ∨ (gl.getD j default).1 = 1
  ctx : Ctx b n w
  chg : Chg (fun x => b ≤ x) w0 w

theorem own17 {b n : Nat} {w w' : World} (h : Ctx b n w) (hc : Chg (fun x => b ≤ x ∧ (x < b + 14 ∨ b + 17 ≤ x)) w w') : Ctx b n w' := h.chg hc (by omega) (by omega) (by omega)
theorem getD_snoc {gl : List (Nat × Nat)} {f k : Nat} (h : ∀ j, j < gl.length → (gl.getD j default).1 = 0 ∨ (gl.getD j default).1 = 1) (hf : f = 0 ∨ f = 1) : ∀ j, j < (gl ++ [(f, k)]).length → ((gl ++ [(f, k)]).getD j default).1 = 0 ∨ ((gl ++ [(f, k)]).getD j default).1 = 1 := by
  intro j hj
  by_cases e : j < gl.length
  · rw [List.getD, List.getElem?_append_left e, ← List.getD]; exact h j e
  · have e1 : j = gl.length := by rw [List.length_append, List.length_singleton] at hj; omega
    subst e1; simpa using hf
theorem cnt_snoc (i f k : Nat) (gl : List (Nat × Nat)) : cnt i (gl ++ [(f, k)]) = cnt i gl + if f = i then 1 else 0 := by
  unfold cnt
  rw [List.countP_append]
  simp [List.countP_cons]

section
variable {b gs n0 n1 r0 k0 l0 r1 k1 l1 n : Nat} {aF : Addr} {cv : Value} {w0 w : World}
/-- 'space.record' of the default partition, where a record can be had. -/
theorem Two.recA (h : Two b gs n0 n1 aF r0 k0 l0 r1 k1 l1 n w0 w) (hg : 2 ≤ gs) (hg2 : gs ≤ 9) (hn : 1 ≤ n0) (hn2 : n0 ≤ 5) (hk1 : k1 ≤ 5) (hr : r0 < n0 * gs) :
    ∃ k' l', (k' = if r0 = 1 ∨ r0 % gs = 0 then k0 + 1 else k0) ∧ Calls Ybaf.prog 6 #[.pointer (some ⟨b + 13, 0, none⟩), cv, .string nmA] w fun e w' => e = .returned (.tuple #[.int .u64 (r0 : Int), .nilIface]) ∧ Two b gs n0 n1 aF (r0 + 1) k' l' r1 k1 l1 n w0 w' := by
  obtain ⟨gv, fv, gl, es, hsp, hes, hgl, c0, c1, hgf⟩ := h.mem
  have hr45 : r0 ≤ 45 := by have := Nat.mul_le_mul hn2 hg2; omega
  by_cases hl : l0 = 0
  · subst hl
    obtain ⟨g1, g2, g3, g4⟩ := h.re0.group hg hn hr
    obtain ⟨m1, m2, m3⟩ := hes.miss neBA
    refine ⟨k0 + 1, (if k0 = 0 then gs - 1 else gs) - 1, by rw [if_pos g3], ?_⟩
    have hnn : 1 ≤ (if k0 = 0 then gs - 1 else gs) ∧ (if k0 = 0 then gs - 1 else gs) ≤ 9 := by split <;> omega
    refine (record6_take (k0' := k0 + 1) (k1' := k1) (f := 0) (k := k0) (fst := r0) (n := if k0 = 0 then gs - 1 else gs) rfl m2 m3 (by omega) hnn.1 hnn.2 (by rw [g4]; split; omega; exact Nat.mul_pos (by omega) (by omega)) (by omega) hsp ?_ ?_).mono ?_
    · intro w hs
      refine (group13_A g1 hs.sp).mono ?_
      rintro e w' ⟨rfl, h1, h2⟩
      have hcc := hs.hc
      refine ⟨rfl, ⟨h1, hs.S.chg h2 ?_, owns_chg hs.groups h2 ?_, hs.free.chg h2 ?_, hs.apart, hs.two, hs.hc, Nat.le_trans hs.sz h2.size⟩, h2⟩
      · rintro ⟨_, h⟩; omega
      · rintro g hg ⟨_, h3⟩; have := (owns_lt hs.groups hg).1; omega
      · rintro g hg ⟨_, h3⟩; have := (hs.free.lt hg).1; omega
    · intro w hc
      by_cases h0 : k0 = 0
      · subst h0
        have e1 : r0 = 1 := g4
        have e2 : (((if (0 : Nat) = 0 then gs - 1 else gs) : Nat) : Int) = (gs : Int) - 1 := by rw [if_pos rfl]; omega
        rw [e1, e2]
        exact rec15_0 (i := 0) hg hg2 hc (fun w => addr27_0 (r := 1) (by omega))
      · have e1 : k0 * gs = r0 := by rw [g4, if_neg h0]
        rw [if_neg h0]
        exact rec15_k hg hg2 (by omega) (by omega) e1 hc (fun w => addr27_0 (by omega))
    · rintro e w' ⟨rfl, ⟨gv', fv', h1⟩, h2⟩
      refine ⟨rfl, g2, h.re1, ⟨gv', fv', gl ++ [(0, k0)], _, h1, ?_, by simp; omega, by rw [cnt_snoc, c0]; rfl, by rw [cnt_snoc, c1]; rfl, getD_snoc hgf (.inl rfl)⟩, own17 h.ctx h2, h.chg.trans (h2.mono fun x _ hx => hx.1)⟩
      have key : ∀ N : Nat, 1 ≤ N → Both (if N = 1 then es else es ++ [(nmA, r0 + 1, N - 1)]) (entry nmA (r0 + 1) (N - 1)) (entry nmB (4294967296 + r1) l1) := fun N hN => by
        by_cases e : N = 1
        · rw [if_pos e, m1]
          have : entry nmA (r0 + 1) (N - 1) = [] := if_pos (by omega)
          rw [this]; exact .inl rfl
        · rw [if_neg e, m1, entry_some (by omega : 1 ≤ N - 1)]; exact .inr rfl
      exact key _ hnn.1
  · obtain ⟨g1, g2, g3, g4⟩ := h.re0.next (by omega : 1 ≤ l0)
    refine ⟨k0, l0 - 1, by rw [if_neg (by omega)], ?_⟩
    have hl9 : l0 ≤ 9 := by
      rcases h.re0 with ⟨_, h, _⟩ | ⟨_, _, h, _⟩
      · omega
      · omega
    have hr1 : 1 ≤ r0 := by
      rcases h.re0 with ⟨_, _, h⟩ | ⟨_, _, _, _, h⟩ <;> omega
    obtain ⟨i, hh, he, hb⟩ := hes.hit neBA (by omega : 1 ≤ l0)
    refine (record6_hit hh he (by omega) hl9 hr1 (by omega) hsp).mono ?_
    rintro e w' ⟨rfl, ⟨fv', h1⟩, h2⟩
    exact ⟨rfl, g1, h.re1, ⟨gv, fv', gl, _, h1, hb, hgl, c0, c1, hgf⟩, own17 h.ctx h2, h.chg.trans (h2.mono fun x _ hx => hx.1)⟩
end
end Go.Proofs.YbulkqwgFmt.sp
