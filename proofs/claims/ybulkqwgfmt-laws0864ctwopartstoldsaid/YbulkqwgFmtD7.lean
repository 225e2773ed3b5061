import Derived.Test.YbulkqwgFmtD6
namespace Go.Proofs.YbulkqwgFmt.sp
open Go.RowKit Go.MuLone Go.Extern.Stop Go.Stop Go.Extern
set_option linter.unusedVariables false
set_option maxRecDepth 100000

section
variable {b gs n0 n1 r0 k0 l0 r1 k1 l1 n : Nat} {aF : Addr} {cv : Value} {w0 w : World}
theorem cast_hi (r : Nat) : ((4294967296 + r : Nat) : Int) = 4294967296 + (r : Int) := by omega
/-- 'space.record' of the other partition, where a record can be had. -/
theorem Two.recB (h : Two b gs n0 n1 aF r0 k0 l0 r1 k1 l1 n w0 w) (hg : 2 ≤ gs) (hg2 : gs ≤ 9) (hn : 1 ≤ n1) (hn2 : n1 ≤ 5) (hk0 : k0 ≤ 5) (hr : r1 < n1 * gs) :
    ∃ k' l', (k' = if r1 = 1 ∨ r1 % gs = 0 then k1 + 1 else k1) ∧ Calls Ybaf.prog 6 #[.pointer (some ⟨b + 13, 0, none⟩), cv, .string nmB] w fun e w' => e = .returned (.tuple #[.int .u64 ((4294967296 + r1 : Nat) : Int), .nilIface]) ∧ Two b gs n0 n1 aF r0 k0 l0 (r1 + 1) k' l' n w0 w' := by
  obtain ⟨gv, fv, gl, es, hsp, hes', hgl, c0, c1, hgf⟩ := h.mem
  have hes := hes'.swap
  have hr45 : r1 ≤ 45 := by have := Nat.mul_le_mul hn2 hg2; omega
  by_cases hl : l1 = 0
  · subst hl
    obtain ⟨g1, g2, g3, g4⟩ := h.re1.group hg hn hr
    obtain ⟨m1, m2, m3⟩ := hes.miss neAB
    refine ⟨k1 + 1, (if k1 = 0 then gs - 1 else gs) - 1, by rw [if_pos g3], ?_⟩
    have hnn : 1 ≤ (if k1 = 0 then gs - 1 else gs) ∧ (if k1 = 0 then gs - 1 else gs) ≤ 9 := by split <;> omega
    refine (record6_take (k0' := k0) (k1' := k1 + 1) (f := 1) (k := k1) (fst := 4294967296 + r1) (n := if k1 = 0 then gs - 1 else gs) rfl m2 m3 (by omega) hnn.1 hnn.2 (by omega) (by omega) hsp ?_ ?_).mono ?_
    · intro w hs
      refine (group13_B g1 hs.sp).mono ?_
      rintro e w' ⟨rfl, h1, h2⟩
      have hcc := hs.hc
      refine ⟨rfl, ⟨h1, hs.S.chg h2 ?_, owns_chg hs.groups h2 ?_, hs.free.chg h2 ?_, hs.apart, hs.two, hs.hc, Nat.le_trans hs.sz h2.size⟩, h2⟩
      · rintro ⟨_, h⟩; omega
      · rintro g hg ⟨_, h3⟩; have := (owns_lt hs.groups hg).1; omega
      · rintro g hg ⟨_, h3⟩; have := (hs.free.lt hg).1; omega
    · intro w hc
      rw [cast_hi]
      by_cases h0 : k1 = 0
      · subst h0
        have e1 : r1 = 1 := g4
        have e2 : (((if (0 : Nat) = 0 then gs - 1 else gs) : Nat) : Int) = (gs : Int) - 1 := by rw [if_pos rfl]; omega
        rw [e1, e2]
        exact rec15_0 (i := 0) hg hg2 hc (fun w => addr27_1 (r := 1) (by omega))
      · have e1 : k1 * gs = r1 := by rw [g4, if_neg h0]
        rw [if_neg h0]
        exact rec15_k hg hg2 (by omega) (by omega) e1 hc (fun w => addr27_1 (by omega))
    · rintro e w' ⟨rfl, ⟨gv', fv', h1⟩, h2⟩
      refine ⟨rfl, h.re0, g2, ⟨gv', fv', gl ++ [(1, k1)], _, h1, ?_, by simp; omega, by rw [cnt_snoc, c0]; rfl, by rw [cnt_snoc, c1]; rfl, getD_snoc hgf (.inr rfl)⟩, own17 h.ctx h2, h.chg.trans (h2.mono fun x _ hx => hx.1)⟩
      have key : ∀ N : Nat, 1 ≤ N → Both (if N = 1 then es else es ++ [(nmB, 4294967296 + r1 + 1, N - 1)]) (entry nmB (4294967296 + (r1 + 1)) (N - 1)) (entry nmA r0 l0) := fun N hN => by
        by_cases e : N = 1
        · rw [if_pos e, m1]
          have : entry nmB (4294967296 + (r1 + 1)) (N - 1) = [] := if_pos (by omega)
          rw [this]; exact .inl rfl
        · rw [if_neg e, m1, entry_some (by omega : 1 ≤ N - 1)]; exact .inr rfl
      exact (key _ hnn.1).swap
  · obtain ⟨g1, g2, g3, g4⟩ := h.re1.next (by omega : 1 ≤ l1)
    refine ⟨k1, l1 - 1, by rw [if_neg (by omega)], ?_⟩
    have hl9 : l1 ≤ 9 := by
      rcases h.re1 with ⟨_, h, _⟩ | ⟨_, _, h, _⟩
      · omega
      · omega
    obtain ⟨i, hh, he, hb⟩ := hes.hit neAB (by omega : 1 ≤ l1)
    refine (record6_hit hh he (by omega) hl9 (by omega) (by omega) hsp).mono ?_
    rintro e w' ⟨rfl, ⟨fv', h1⟩, h2⟩
    exact ⟨rfl, h.re0, g1, ⟨gv, fv', gl, _, h1, hb.swap, hgl, c0, c1, hgf⟩, own17 h.ctx h2, h.chg.trans (h2.mono fun x _ hx => hx.1)⟩
/-- 'space.record' of the default partition, full. -/
theorem Two.fullA (h : Two b gs n0 n1 aF r0 k0 l0 r1 k1 l1 n w0 w) (hg : 2 ≤ gs) (hn : 1 ≤ n0) (hr : r0 = n0 * gs) :
    Calls Ybaf.prog 6 #[.pointer (some ⟨b + 13, 0, none⟩), cv, .string nmA] w fun e w' => e = .returned (.tuple #[.int .u64 0, .iface 93 (.pointer (some aF))]) ∧ Two b gs n0 n1 aF r0 k0 l0 r1 k1 l1 n w0 w' := by
  obtain ⟨gv, fv, gl, es, hsp, hes, hgl, c0, c1, hgf⟩ := h.mem
  have hre := h.re0
  obtain ⟨hk, hl⟩ := h.re0.full hg hn hr
  rw [hl] at hes
  obtain ⟨m1, m2, m3⟩ := hes.miss neBA
  rw [hk] at hsp
  refine (record6_full m2 hsp).mono ?_
  rintro e w' ⟨rfl, h1, h2⟩
  refine ⟨rfl, hre, h.re1, ⟨gv, fv, gl, es, by rw [hk]; exact h1, by rw [hl]; exact hes, hgl, c0, c1, hgf⟩, own17 h.ctx h2, h.chg.trans (h2.mono fun x _ hx => hx.1)⟩
/-- 'space.record' of the other partition, full: the ctx's error. -/
theorem Two.fullB {F : Interp} (hF : F.answers w0.tape) (h : Two b gs n0 n1 aF r0 k0 l0 r1 k1 l1 n w0 w) (hnn : n ≤ 100000) (hg : 2 ≤ gs) (hn : 1 ≤ n1) (hr : r1 = n1 * gs) :
    Calls Ybaf.prog 6 #[.pointer (some ⟨b + 13, 0, none⟩), .iface 49 (.pointer (some ⟨b + 16, 0, none⟩)), .string nmB] w fun e w' => ∃ E, e = .returned (.tuple #[.int .u64 0, .iface 110 (.pointer (some ⟨E, 0, none⟩))]) ∧
      w'.cell? ⟨E, 0 + 1, none⟩ = some (.iface 93 (.pointer (some ⟨b + 14, 0, none⟩))) ∧ Two b gs n0 n1 aF r0 k0 l0 r1 k1 l1 (n + 1) w0 w' := by
  obtain ⟨gv, fv, gl, es, hsp, hes, hgl, c0, c1, hgf⟩ := h.mem
  have hre := h.re1
  obtain ⟨hk, hl⟩ := h.re1.full hg hn hr
  rw [hl] at hes
  obtain ⟨m1, m2, m3⟩ := hes.swap.miss neAB
  rw [hk] at hsp
  refine (record6_B_full (F := F) (by rw [h.chg.tape]; exact hF) hnn m2 (Nat.le_refl _) hsp h.ctx).mono ?_
  rintro e w' ⟨E, rfl, hE, h1, h3, h2⟩
  exact ⟨E, rfl, hE, h.re0, hre, ⟨gv, fv, gl, es, by rw [hk]; exact h1, by rw [hl]; exact hes, hgl, c0, c1, hgf⟩, h3, h.chg.trans h2⟩
end
end Go.Proofs.YbulkqwgFmt.sp
