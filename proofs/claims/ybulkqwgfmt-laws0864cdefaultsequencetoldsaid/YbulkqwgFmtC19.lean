import Derived.Test.YbulkqwgFmtC18
namespace Go.Proofs.YbulkqwgFmt.sp
open Go.RowKit Go.MuLone
set_option linter.unusedVariables false
set_option maxRecDepth 1000000

set_option maxHeartbeats 20000000 in
/-- 'LawS0864CDefaultSequence'. -/
theorem law3 {g n c : Int} {aF : Addr} {w : World} (hg0 : 0 ≤ g) (hg1 : g ≤ 255) (hn0 : 0 ≤ n) (hn1 : n ≤ 255) (hc0 : 0 ≤ c) (hc1 : c ≤ 255) (hlo : 3 ≤ w.heap.size) (hT : Tab w) (hF : w.cell? ⟨0, 0, none⟩ = some (.iface 93 (.pointer (some aF)))) :
    Calls Ybaf.prog 3 #[.int .u8 g, .int .u8 n, .int .u8 c] w fun e w' => e = .returned (.bool true) ∧ Below w.heap.size w w' := by
  obtain ⟨gs, hgs⟩ : ∃ gs : Nat, 2 + g % 8 = (gs : Int) := ⟨(2 + g % 8).toNat, by omega⟩
  obtain ⟨ng, hng⟩ : ∃ ng : Nat, 1 + n % 5 = (ng : Int) := ⟨(1 + n % 5).toNat, by omega⟩
  obtain ⟨cn, rfl⟩ : ∃ cn : Nat, c = (cn : Int) := ⟨c.toNat, by omega⟩
  have g2 : 2 ≤ gs := by omega
  have g9 : gs ≤ 9 := by omega
  have n1 : 1 ≤ ng := by omega
  have n5 : ng ≤ 5 := by omega
  obtain ⟨m, hm⟩ : ∃ m : Nat, m = ng * gs := ⟨_, rfl⟩
  have m45 : m ≤ 45 := by rw [hm]; have := Nat.mul_le_mul n5 g9; omega
  have hp : (ng : Int) * (gs : Int) = (m : Int) := by rw [hm, Int.natCast_mul]
  have HM := hid hm
  obtain ⟨b, hb⟩ : ∃ b, b = w.heap.size := ⟨_, rfl⟩
  have S5 := hid (spool5 hb.symm g9 n1 n5 (Nat.le_refl 1) (by omega) (by omega) hT hF)
  rw [← hb]
  have HB := hid hb
  clear hm hb hT hF hlo
  go_enter Ybaf.func3, Ybaf.ntmps3
  go_wp2_with fail
  refine S5.out.mono ?_
  rintro e w1 ⟨rfl, hs, hz, hc⟩
  have X2 : Hid (Seq b gs ng aF 1 0 0 w (w1.alloc (.cells #[.pointer (some ⟨b + 12, 0, none⟩), .int .i32 0, .int .u32 0, .slice none 0 0, .slice none 0 0, .bool false] 35))) := hid {
    reach := .inl ⟨rfl, rfl, rfl⟩
    mem := ⟨.slice none 0 0, .slice none 0 0, [], {
      sp := hs.chg ((Chg.refl (fun _ => False) w1).alloc _) (fun _ _ h => h)
      S := by have := at_new w1 [.pointer (some ⟨b + 12, 0, none⟩), .int .i32 0, .int .u32 0, .slice none 0 0, .slice none 0 0, .bool false] 35; rw [hz] at this; exact this
      groups := ⟨rfl, .inl ⟨rfl, rfl⟩⟩
      free := ⟨rfl, .inl ⟨rfl, rfl⟩⟩
      apart := fun g hg => by simp [Value.ownBlock] at hg
      two := by simp [entry] }, rfl, fun j hj => absurd hj (by simp)⟩
    chg := (hc.mono fun _ _ h => h.elim).alloc _ }
  clear hs hc S5
  go_wp2
  go_loopw [10, 11] (fun h i wr => ∃ j r k l : Nat, j ≤ cn ∧ i = .int .i64 j ∧ h = .int .i64 k ∧ (j + 1 = r ∨ (r = m ∧ r ≤ j + 1)) ∧ Hid (Seq b gs ng aF r k l w wr)) (fun _ i _ => cn - (intOf i).toNat)
  case atStart => exact ⟨0, 1, 0, 0, Nat.zero_le _, rfl, rfl, .inl rfl, X2⟩
  case round =>
    obtain ⟨j, r, k, l, hj, rfl, rfl, hr, H⟩ := hrel
    have k5 : k ≤ 5 := by have := H.out.reach.mk; omega
    have e37 : ((j : Int) + 1) = ((j + 1 : Nat) : Int) := by omega
    by_cases hlt : j < cn
    · by_cases hrm : r < m
      · obtain rfl : j + 1 = r := by omega
        obtain ⟨k', l', hk', HR⟩ := H.out.record (cv := .nilIface) g2 g9 n1 n5 (by rw [← HM.out]; exact hrm)
        rw [← e37] at HR
        have HC := hid HR
        clear HR e37 X2
        obtain ⟨q, hq⟩ : ∃ q : Nat, q = (j + 1) % gs := ⟨_, rfl⟩
        have hqi : ((j : Int) + 1) % (gs : Int) = (q : Int) := by rw [hq, Int.natCast_emod]; rfl
        rw [← hq] at hk'
        have HQ := hid hq
        clear hq
        by_cases hq1 : j + 1 = 1
        · rw [if_pos (.inl hq1)] at hk'
          subst hk'
          have t1 : (((j : Int) + 1) == 1) = true := by simp; omega
          clear hq1
          go_wp2_with fail
          refine HC.out.mono ?_
          rintro e w' ⟨rfl, hs⟩
          have HS := hid hs
          clear hs
          go_wp2
          go_roundw
          case rel => exact ⟨j + 1, j + 1 + 1, k + 1, l', by omega, by go_num, by go_num, .inl rfl, HS⟩
          case measure => simp [intOf]; omega
        · have t1 : (((j : Int) + 1) == 1) = false := by simp; omega
          by_cases hq2 : q = 0
          · rw [if_pos (.inr hq2)] at hk'
            subst hk'
            have t2 : ((q : Int) == 0) = true := by simp [hq2]
            clear hq1 hq2
            go_wp2_with fail
            refine HC.out.mono ?_
            rintro e w' ⟨rfl, hs⟩
            have HS := hid hs
            clear hs
            go_wp2
            go_roundw
            case rel => exact ⟨j + 1, j + 1 + 1, k + 1, l', by omega, by go_num, by go_num, .inl rfl, HS⟩
            case measure => simp [intOf]; omega
          · rw [if_neg (by omega)] at hk'
            subst hk'
            have t2 : ((q : Int) == 0) = false := by simp [hq2]
            clear hq1 hq2
            go_wp2_with fail
            refine HC.out.mono ?_
            rintro e w' ⟨rfl, hs⟩
            have HS := hid hs
            clear hs
            go_wp2
            go_roundw
            case rel => exact ⟨j + 1, j + 1 + 1, k', l', by omega, by go_num, by go_num, .inl rfl, HS⟩
            case measure => simp [intOf]; omega
      · have hr2 : r = m := by
          have h1 := H.out.reach.le g2 n1
          rw [← HM.out] at h1
          omega
        have hfin : r ≤ j + 1 := by omega
        have HR := hid (H.out.full (cv := .nilIface) g2 n1 (by rw [← HM.out]; exact hr2))
        have t0 : ¬ (((j : Int) + 1) < (m : Int)) := by omega
        have HR2 := hid hr2
        clear hr2 hrm X2 e37
        go_wp2_with fail
        refine HR.out.mono ?_
        rintro e w' ⟨rfl, hs⟩
        have gl0 : w'.cell? ⟨0, 0, none⟩ = some (.iface 93 (.pointer (some aF))) := by
          obtain ⟨_, _, _, h1, _⟩ := hs.mem
          exact h1.sp.full
        have HS := hid hs
        clear hs
        go_wp2_with fail
        refine (is_same aF w').mono ?_
        rintro e w'' ⟨rfl, rfl⟩
        go_wp2
        go_roundw
        case rel => exact ⟨j + 1, r, k, l, by omega, by go_num, rfl, .inr ⟨HR2.out, by omega⟩, HS⟩
        case measure => simp [intOf]; omega
    · obtain rfl : j = cn := by omega
      obtain ⟨gv, fv, gl, h1, h2, h3⟩ := H.out.mem
      obtain ⟨a, cap, hgv, _⟩ := grps_cells h1.groups
      have H8 := hid (held8 (by omega) (fun j hj => .inl (h3 j hj)) h1)
      have c0 : cnt 0 gl = k := by
        rw [← h2]
        unfold cnt
        refine List.countP_eq_length.2 fun x hx => ?_
        obtain ⟨i, hi, rfl⟩ := List.getElem_of_mem hx
        have := h3 i hi
        rw [List.getD, List.getElem?_eq_getElem hi] at this
        simpa using this
      have c1 : cnt 1 gl = 0 := by
        unfold cnt
        refine List.countP_eq_zero.2 fun x hx => ?_
        obtain ⟨i, hi, rfl⟩ := List.getElem_of_mem hx
        have := h3 i hi
        rw [List.getD, List.getElem?_eq_getElem hi] at this
        simp at this
        simp [this]
      rw [c0, c1, hgv, h2] at H8
      have HC0 := hid H.out.chg
      have HZ : Hid (b = w.heap.size) := HB
      clear h1 h3 c0 c1 hgv X2 e37
      go_wp2_with fail
      refine H8.out.mono ?_
      rintro e w' ⟨B, rfl, aB, aS, cc⟩
      have d0 := aB.cell (k := 0) rfl
      have d1 := aB.cell (k := 1) rfl
      have d3 := aS.cell (k := 3) rfl
      have HCC := hid cc
      clear aB aS cc
      go_wp2
      go_ret
      refine ⟨rfl, ?_⟩
      exact (HC0.out.trans HCC.out).below (fun g hg e => by omega) (by rw [HZ.out]; exact Nat.le_refl _)
end Go.Proofs.YbulkqwgFmt.sp
