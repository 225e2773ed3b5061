import Derived.Test.YbulkqwgFmtD8
namespace Go.Proofs.YbulkqwgFmt.sp
open Go.RowKit Go.MuLone Go.Extern.Stop Go.Stop Go.Extern
set_option linter.unusedVariables false
set_option maxRecDepth 1000000

/-- What the walk is told of the slice that came in. -/
def Arg (base : Nat) (w : World) (a : Option Addr) (len : Nat) (z : Nat → Int) : Prop :=
  len = 0 ∨ ∃ b off, a = some ⟨b, off, none⟩ ∧ b < base ∧ ∀ i, i < len → w.cell? ⟨b, off + i, none⟩ = some (.int .u8 (z i))

set_option maxHeartbeats 4000000 in
/-- 'LawS0864CTwoParts' at a long input. -/
theorem law4_long {a : Option Addr} {len cap : Nat} {g n m : Int} {w : World} (hl : 1024 < len) (hml : len ≤ maxLen) :
    Calls Ybaf.prog 4 #[.slice a len cap, .int .u8 g, .int .u8 n, .int .u8 m] w fun e w' => e = .returned (.bool true) ∧ Below w.heap.size w w' := by
  have hl' : (1024 : Int) < (len : Int) := by omega
  go_enter Ybaf.func4, Ybaf.ntmps4
  go_wp2
  go_ret
  exact ⟨rfl, .refl _ _⟩

set_option maxHeartbeats 40000000 in
/-- 'LawS0864CTwoParts'. -/
theorem law4_short {F : Interp} {a : Option Addr} {len cap : Nat} {z : Nat → Int} {g n m : Int} {aF : Addr} {w : World} (hl : len ≤ 1024) (hA : Arg w.heap.size w a len z) (hz : ∀ i, 0 ≤ z i ∧ z i ≤ 255)
    (hg0 : 0 ≤ g) (hg1 : g ≤ 255) (hn0 : 0 ≤ n) (hn1 : n ≤ 255) (hm0 : 0 ≤ m) (hm1 : m ≤ 255) (hlo : 3 ≤ w.heap.size) (hT : Tab w) (hFa : F.answers w.tape) (hF : w.cell? ⟨0, 0, none⟩ = some (.iface 93 (.pointer (some aF)))) :
    Calls Ybaf.prog 4 #[.slice a len cap, .int .u8 g, .int .u8 n, .int .u8 m] w fun e w' => e = .returned (.bool true) ∧ Below w.heap.size w w' := by
  obtain ⟨gs, hgs⟩ : ∃ gs : Nat, 2 + g % 8 = (gs : Int) := ⟨(2 + g % 8).toNat, by omega⟩
  obtain ⟨ng0, hng0⟩ : ∃ ng : Nat, 1 + n % 5 = (ng : Int) := ⟨(1 + n % 5).toNat, by omega⟩
  obtain ⟨ng1, hng1⟩ : ∃ ng : Nat, 1 + m % 5 = (ng : Int) := ⟨(1 + m % 5).toNat, by omega⟩
  have g2 : 2 ≤ gs := by omega
  have g9 : gs ≤ 9 := by omega
  have a1 : 1 ≤ ng0 := by omega
  have a5 : ng0 ≤ 5 := by omega
  have b1 : 1 ≤ ng1 := by omega
  have b5 : ng1 ≤ 5 := by omega
  obtain ⟨m0, hm0'⟩ : ∃ m : Nat, m = ng0 * gs := ⟨_, rfl⟩
  obtain ⟨m1, hm1'⟩ : ∃ m : Nat, m = ng1 * gs := ⟨_, rfl⟩
  have m045 : m0 ≤ 45 := by rw [hm0']; have := Nat.mul_le_mul a5 g9; omega
  have m145 : m1 ≤ 45 := by rw [hm1']; have := Nat.mul_le_mul b5 g9; omega
  have hp0 : (ng0 : Int) * (gs : Int) = (m0 : Int) := by rw [hm0', Int.natCast_mul]
  have hp1 : (ng1 : Int) * (gs : Int) = (m1 : Int) := by rw [hm1', Int.natCast_mul]
  have HM0 := hid hm0'
  have HM1 := hid hm1'
  obtain ⟨b, hb⟩ : ∃ b, b = w.heap.size := ⟨_, rfl⟩
  have S5 := hid (spool5 hb.symm g9 a1 a5 b1 b5 (by omega) hT hF)
  rw [← hb] at hA ⊢
  have HB := hid hb
  have HA := hid hA
  have HZ := hid hz
  have HFa := hid hFa
  have hl' : (len : Int) ≤ 1024 := by omega
  obtain ⟨ji, hj48, hjb⟩ := Option.map_eq_some_iff.1 info25
  have hmc : ∀ w : World, (Instr.makeChan 48 (.int .i64 0)).run Ybaf.prog w = .ok (.chan (some w.heap.size)) (w.alloc (.chan 0 #[] false 0 0 false)) := fun w => Go.Conc.run_makeChan (P := Ybaf.prog) (w := w) Ybaf.underlying48 hj48 .i64 0 (by omega) (by rw [hjb]; omega)
  clear hm0' hm1' hb hT hF hlo hA hz hFa
  go_enter Ybaf.func4, Ybaf.ntmps4
  go_wp2_with fail
  refine S5.out.mono ?_
  rintro e w1 ⟨rfl, hs, hz1, hc⟩
  have N9 := hid (new9_laid hs hz1 hc)
  clear hs hc S5
  go_wp2_with fail
  refine N9.out.mono ?_
  rintro e w2 ⟨rfl, hL2, hz2⟩
  obtain ⟨w3, hcl, hL3, hch, hz3⟩ := closed hL2 hz2
  have X := hid (Two.start hL3 hch hz3)
  clear N9 hz1 hL2 hL3 hch
  go_wp2
  go_loopw [16, 17, 18, 19, 20, 58] (fun x16 x17 x18 x19 x20 x58 wr => ∃ j r0 k0 l0 r1 k1 l1 f : Nat, j ≤ len ∧ f ≤ j ∧ x16 = .int .i64 r0 ∧ x17 = .int .i64 r1 ∧ x18 = .int .i64 k0 ∧ x19 = .int .i64 k1 ∧ x20 = .int .i64 f ∧ x58 = .int .i64 j ∧ Hid (Two b gs ng0 ng1 aF r0 k0 l0 r1 k1 l1 f w wr)) (fun _ _ _ _ _ i _ => len - (intOf i).toNat)
  case atStart => exact ⟨0, 1, 0, 0, 1, 0, 0, 0, Nat.zero_le _, Nat.le_refl _, rfl, rfl, rfl, rfl, rfl, rfl, X⟩
  case round =>
    obtain ⟨j, r0, k0, l0, r1, k1, l1, f, hj, hf, rfl, rfl, rfl, rfl, rfl, rfl, H⟩ := hrel
    have k05 : k0 ≤ 5 := by have := H.out.re0.mk; omega
    have k15 : k1 ≤ 5 := by have := H.out.re1.mk; omega
    have r0m : r0 ≤ m0 := by rw [HM0.out]; exact H.out.re0.le g2 a1
    have r1m : r1 ≤ m1 := by rw [HM1.out]; exact H.out.re1.le g2 b1
    clear X
    by_cases hlt : j < len
    · obtain ⟨B, off, rfl, hB, hcell⟩ := HA.out.resolve_left (by omega)
      obtain ⟨v, hv⟩ : ∃ v, v = z j := ⟨_, rfl⟩
      have cj : wr.cell? ⟨B, off + j, none⟩ = some (.int .u8 v) := by rw [hv]; exact cell_chg (hcell j hlt) H.out.chg (by show ¬ b ≤ B; omega)
      have v0 : 0 ≤ v := by rw [hv]; exact (HZ.out j).1
      have v1 : v ≤ 255 := by rw [hv]; exact (HZ.out j).2
      clear hv hcell
      by_cases hpar : v % 2 = 0
      · have tp : ((v % 2) == 0) = true := by simp [hpar]
        clear hpar
        by_cases hrm : r0 < m0
        · obtain ⟨k', l', hk', HR⟩ := H.out.recA (cv := .iface 49 (.pointer (some ⟨b + 16, 0, none⟩))) g2 g9 a1 a5 k15 (by rw [← HM0.out]; exact hrm)
          have HC := hid HR
          clear HR
          obtain ⟨q, hq⟩ : ∃ q : Nat, q = r0 % gs := ⟨_, rfl⟩
          have hqi : (r0 : Int) % (gs : Int) = (q : Int) := by rw [hq, Int.natCast_emod]
          rw [← hq] at hk'
          have HQ := hid hq
          have hrm' : (r0 : Int) < (m0 : Int) := by omega
          clear hq
          by_cases hq1 : r0 = 1
          · rw [if_pos (.inl hq1)] at hk'
            subst hk'
            have t1 : ((r0 : Int) == 1) = true := by simp; omega
            clear hq1
            go_wp2_with fail
            refine HC.out.mono ?_
            rintro e w' ⟨rfl, hs⟩
            have HS := hid hs
            clear hs
            go_wp2
            go_roundw
            case rel => exact ⟨j + 1, r0 + 1, k0 + 1, l', r1, k1, l1, f, by omega, by omega, by go_num, rfl, by go_num, rfl, rfl, by go_num, HS⟩
            case measure => simp [intOf]; omega
          · have t1 : ((r0 : Int) == 1) = false := by simp; omega
            by_cases hq2 : q = 0
            · rw [if_pos (.inr hq2)] at hk'
              subst hk'
              have t2 : ((q : Int) == 0) = true := by simp [hq2]
              clear hq1 hq2
              go_wp2_with fail
              refine HC.out.mono ?_
              rintro e w' ⟨rfl, hs⟩
              have HS := hid hs
              clear hs
              go_wp2
              go_roundw
              case rel => exact ⟨j + 1, r0 + 1, k0 + 1, l', r1, k1, l1, f, by omega, by omega, by go_num, rfl, by go_num, rfl, rfl, by go_num, HS⟩
              case measure => simp [intOf]; omega
            · rw [if_neg (by omega)] at hk'
              subst hk'
              have t2 : ((q : Int) == 0) = false := by simp [hq2]
              clear hq1 hq2
              go_wp2_with fail
              refine HC.out.mono ?_
              rintro e w' ⟨rfl, hs⟩
              have HS := hid hs
              clear hs
              go_wp2
              go_roundw
              case rel => exact ⟨j + 1, r0 + 1, k', l', r1, k1, l1, f, by omega, by omega, by go_num, rfl, by go_num, rfl, rfl, by go_num, HS⟩
              case measure => simp [intOf]; omega
        · have hr2 : r0 = m0 := by omega
          have HR := hid (H.out.fullA (cv := .iface 49 (.pointer (some ⟨b + 16, 0, none⟩))) g2 a1 (by rw [← HM0.out]; exact hr2))
          have t0 : ¬ ((r0 : Int) < (m0 : Int)) := by omega
          clear hr2 hrm
          go_wp2_with fail
          refine HR.out.mono ?_
          rintro e w' ⟨rfl, hs⟩
          have gl0 : w'.cell? ⟨0, 0, none⟩ = some (.iface 93 (.pointer (some aF))) := by
            obtain ⟨_, _, _, _, h1, _⟩ := hs.mem
            exact h1.sp.full
          have HS := hid hs
          clear hs
          go_wp2_with fail
          refine (is_same aF w').mono ?_
          rintro e w'' ⟨rfl, rfl⟩
          go_wp2
          go_roundw
          case rel => exact ⟨j + 1, r0, k0, l0, r1, k1, l1, f, by omega, by omega, rfl, rfl, rfl, rfl, rfl, by go_num, HS⟩
          case measure => simp [intOf]; omega
      · have tp : ((v % 2) == 0) = false := by simp [hpar]
        clear hpar
        by_cases hrm : r1 < m1
        · obtain ⟨k', l', hk', HR⟩ := H.out.recB (cv := .iface 49 (.pointer (some ⟨b + 16, 0, none⟩))) g2 g9 b1 b5 k05 (by rw [← HM1.out]; exact hrm)
          rw [cast_hi] at HR
          have eor := or_1 (r := r1) (by omega)
          have HC := hid HR
          clear HR
          obtain ⟨q, hq⟩ : ∃ q : Nat, q = r1 % gs := ⟨_, rfl⟩
          have hqi : (r1 : Int) % (gs : Int) = (q : Int) := by rw [hq, Int.natCast_emod]
          rw [← hq] at hk'
          have HQ := hid hq
          have hrm' : (r1 : Int) < (m1 : Int) := by omega
          clear hq
          by_cases hq1 : r1 = 1
          · rw [if_pos (.inl hq1)] at hk'
            subst hk'
            have t1 : ((r1 : Int) == 1) = true := by simp; omega
            clear hq1
            go_wp2_with fail
            refine HC.out.mono ?_
            rintro e w' ⟨rfl, hs⟩
            have HS := hid hs
            clear hs
            go_wp2
            go_roundw
            case rel => exact ⟨j + 1, r0, k0, l0, r1 + 1, k1 + 1, l', f, by omega, by omega, rfl, by go_num, rfl, by go_num, rfl, by go_num, HS⟩
            case measure => simp [intOf]; omega
          · have t1 : ((r1 : Int) == 1) = false := by simp; omega
            by_cases hq2 : q = 0
            · rw [if_pos (.inr hq2)] at hk'
              subst hk'
              have t2 : ((q : Int) == 0) = true := by simp [hq2]
              clear hq1 hq2
              go_wp2_with fail
              refine HC.out.mono ?_
              rintro e w' ⟨rfl, hs⟩
              have HS := hid hs
              clear hs
              go_wp2
              go_roundw
              case rel => exact ⟨j + 1, r0, k0, l0, r1 + 1, k1 + 1, l', f, by omega, by omega, rfl, by go_num, rfl, by go_num, rfl, by go_num, HS⟩
              case measure => simp [intOf]; omega
            · rw [if_neg (by omega)] at hk'
              subst hk'
              have t2 : ((q : Int) == 0) = false := by simp [hq2]
              clear hq1 hq2
              go_wp2_with fail
              refine HC.out.mono ?_
              rintro e w' ⟨rfl, hs⟩
              have HS := hid hs
              clear hs
              go_wp2
              go_roundw
              case rel => exact ⟨j + 1, r0, k0, l0, r1 + 1, k', l', f, by omega, by omega, rfl, by go_num, rfl, by go_num, rfl, by go_num, HS⟩
              case measure => simp [intOf]; omega
        · have hr2 : r1 = m1 := by omega
          have HR := hid (H.out.fullB HFa.out (by omega) g2 b1 (by rw [← HM1.out]; exact hr2))
          have t0 : ¬ ((r1 : Int) < (m1 : Int)) := by omega
          clear hr2 hrm
          go_wp2_with fail
          refine HR.out.mono ?_
          rintro e w' ⟨E, rfl, hE, hs⟩
          have HS := hid hs
          clear hs
          go_wp2_with fail
          refine (is_wrap_same E 0 _ w' hE).mono ?_
          rintro e w'' ⟨rfl, rfl⟩
          go_wp2
          go_roundw
          case rel => exact ⟨j + 1, r0, k0, l0, r1, k1, l1, f + 1, by omega, by omega, rfl, rfl, rfl, rfl, by go_num, by go_num, HS⟩
          case measure => simp [intOf]; omega
    · obtain rfl : j = len := by omega
      obtain ⟨gv, fv, gl, es, h1, _, h2, c0, c1, h3⟩ := H.out.mem
      obtain ⟨a', cap', hgv, _⟩ := grps_cells h1.groups
      have H8 := hid (held8 (by omega) h3 h1)
      rw [c0, c1, hgv, h2] at H8
      have HC0 := hid H.out.chg
      have HX := hid H.out.ctx
      have e2 : ((k0 + k1 : Nat) : Int) = (k0 : Int) + (k1 : Int) := by omega
      clear h1 h3 c0 c1 hgv
      go_wp2_with fail
      refine H8.out.mono ?_
      rintro e w' ⟨B, rfl, aB, aS, cc⟩
      have d0 := aB.cell (k := 0) rfl
      have d1 := aB.cell (k := 1) rfl
      have d3 := aS.cell (k := 3) rfl
      have x2 := (own17 HX.out cc).cx.cell (k := 2) rfl
      have HCC := hid cc
      clear aB aS cc
      go_wp2
      go_ret
      refine ⟨rfl, ?_⟩
      exact (HC0.out.trans (HCC.out.mono fun x _ hx => hx.1)).below (fun g hg e => by omega) (by rw [HB.out]; exact Nat.le_refl _)
end Go.Proofs.YbulkqwgFmt.sp
