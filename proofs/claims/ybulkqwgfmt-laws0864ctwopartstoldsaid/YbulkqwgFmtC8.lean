import Derived.Test.YbulkqwgFmtC7
namespace Go.Proofs.YbulkqwgFmt.sp
open Go.RowKit
set_option linter.unusedVariables false
set_option maxRecDepth 100000

set_option maxHeartbeats 4000000 in
theorem clo21 {B : Nat} {p q : ByteArray} {x y : Value} {w : World} (hB : w.cell? ⟨B, 0, none⟩ = some (.string q)) :
    Calls Ybaf.prog 21 #[.agg #[.string p, x, y], .pointer (some ⟨B, 0, none⟩)] w fun e w' => e = .returned (.bool (p.toList == q.toList)) ∧ Chg (fun _ => False) w w' := by
  have hl := World.block_lt_of_cell? _ _ hB
  have hB' := cell_alloc (.cells #[.string p, x, y] 87) hB
  go_enter Ybaf.func21, Ybaf.ntmps21
  go_wp2
  go_ret
  exact ⟨rfl, (Chg.refl _ w).alloc _⟩

/-- The entries of a row of free records: name, next, left. -/
def ents (es : List (ByteArray × Nat × Nat)) : List Value := es.flatMap fun e => [.string e.1, .int .u64 (e.2.1 : Int), .int .i64 (e.2.2 : Int)]

theorem ents_cells {g : Nat} {es : List (ByteArray × Nat × Nat)} {rest : List Value} {w : World} (hn : es.length ≤ 2) (h : At w g (ents es ++ rest) 87) :
    ∀ k, k < es.length → w.cell? ⟨g, k * 3, none⟩ = some (.string (es.getD k default).1) ∧ w.cell? ⟨g, k * 3 + 1, none⟩ = some (.int .u64 ((es.getD k default).2.1 : Int)) ∧ w.cell? ⟨g, k * 3 + 2, none⟩ = some (.int .i64 ((es.getD k default).2.2 : Int)) := by
  intro k hk
  match es, hn, k, hk, h with
  | [e0], _, 0, _, h => exact ⟨h.cell (k := 0) rfl, h.cell (k := 1) rfl, h.cell (k := 2) rfl⟩
  | [e0, e1], _, 0, _, h => exact ⟨h.cell (k := 0) rfl, h.cell (k := 1) rfl, h.cell (k := 2) rfl⟩
  | [e0, e1], _, 1, _, h => exact ⟨h.cell (k := 3) rfl, h.cell (k := 4) rfl, h.cell (k := 5) rfl⟩

set_option maxHeartbeats 4000000 in
theorem idx20_nil {B : Nat} {w : World} :
    Calls Ybaf.prog 20 #[.slice none 0 0, .func (.func 21) #[] #[.pointer (some ⟨B, 0, none⟩)]] w fun e w' => e = .returned (.int .i64 (-1)) ∧ w' = w := by
  go_enter Ybaf.func20, Ybaf.ntmps20
  go_wp2
  go_loopw [8] (fun i wr => i = .int .i64 0 ∧ wr = w) (fun _ _ => 0)
  case atStart => exact ⟨rfl, rfl⟩
  case round =>
    obtain ⟨rfl, rfl⟩ := hrel
    go_wp2
    go_ret
    exact ⟨rfl, rfl⟩

set_option maxHeartbeats 4000000 in
theorem idx20 {B g cap : Nat} {q : ByteArray} {es : List (ByteArray × Nat × Nat)} {rest : List Value} {r : Nat} {w : World} (hn : es.length ≤ 2) (hB : w.cell? ⟨B, 0, none⟩ = some (.string q)) (h : At w g (ents es ++ rest) 87)
    (hr : r < es.length) (hh : (es.getD r default).1.toList == q.toList) (hm : ∀ j, j < r → ((es.getD j default).1.toList == q.toList) = false) :
    Calls Ybaf.prog 20 #[.slice (some ⟨g, 0, none⟩) es.length cap, .func (.func 21) #[] #[.pointer (some ⟨B, 0, none⟩)]] w fun e w' => e = .returned (.int .i64 (r : Int)) ∧ Chg (fun _ => False) w w' := by
  have HC := hid (ents_cells hn h)
  clear h
  go_enter Ybaf.func20, Ybaf.ntmps20
  go_wp2
  go_loopw [8] (fun i wr => ∃ k : Nat, k ≤ r ∧ i = .int .i64 k ∧ Hid (Chg (fun _ => False) w wr)) (fun i _ => r - (intOf i).toNat)
  case atStart => exact ⟨0, Nat.zero_le _, rfl, hid (Chg.refl _ _)⟩
  case round =>
    obtain ⟨k, hk, rfl, H⟩ := hrel
    have hkn : k < es.length := by omega
    obtain ⟨d0, d1, d2⟩ := HC.out k hkn
    have e0 := cell_chg d0 H.out (fun h => h)
    have e1 := cell_chg d1 H.out (fun h => h)
    have e2 := cell_chg d2 H.out (fun h => h)
    have hB2 := cell_chg hB H.out (fun h => h)
    clear d0 d1 d2
    obtain ⟨ek, hek⟩ : ∃ x, x = es.getD k default := ⟨_, rfl⟩
    rw [← hek] at e0 e1 e2
    by_cases hkr : k = r
    · have t1 : (ek.1.toList == q.toList) = true := by rw [hek, hkr]; exact hh
      have HR := hid hkr
      clear hek hh hm hkr
      go_wp2_with fail
      refine (clo21 hB2).mono ?_
      rintro e w' ⟨rfl, hc⟩
      rw [t1]
      have HK := hid (H.out.trans hc)
      clear hc
      go_wp2
      go_ret
      exact ⟨by rw [HR.out]; rfl, HK.out⟩
    · have t1 : (ek.1.toList == q.toList) = false := by rw [hek]; exact hm k (by omega)
      clear hek hh hm
      go_wp2_with fail
      refine (clo21 hB2).mono ?_
      rintro e w' ⟨rfl, hc⟩
      rw [t1]
      have HK := hid (H.out.trans hc)
      clear hc
      go_wp2
      go_roundw
      case rel => exact ⟨k + 1, by omega, by go_num, HK⟩
      case measure => simp [intOf]; omega

set_option maxHeartbeats 4000000 in
theorem idx20_miss {B g cap : Nat} {q : ByteArray} {es : List (ByteArray × Nat × Nat)} {rest : List Value} {w : World} (hn : es.length ≤ 2) (hB : w.cell? ⟨B, 0, none⟩ = some (.string q)) (h : At w g (ents es ++ rest) 87)
    (hm : ∀ j, j < es.length → ((es.getD j default).1.toList == q.toList) = false) :
    Calls Ybaf.prog 20 #[.slice (some ⟨g, 0, none⟩) es.length cap, .func (.func 21) #[] #[.pointer (some ⟨B, 0, none⟩)]] w fun e w' => e = .returned (.int .i64 (-1)) ∧ Chg (fun _ => False) w w' := by
  have HC := hid (ents_cells hn h)
  clear h
  go_enter Ybaf.func20, Ybaf.ntmps20
  go_wp2
  go_loopw [8] (fun i wr => ∃ k : Nat, k ≤ es.length ∧ i = .int .i64 k ∧ Hid (Chg (fun _ => False) w wr)) (fun i _ => es.length - (intOf i).toNat)
  case atStart => exact ⟨0, Nat.zero_le _, rfl, hid (Chg.refl _ _)⟩
  case round =>
    obtain ⟨k, hk, rfl, H⟩ := hrel
    by_cases hkn : k < es.length
    · obtain ⟨d0, d1, d2⟩ := HC.out k hkn
      have e0 := cell_chg d0 H.out (fun h => h)
      have e1 := cell_chg d1 H.out (fun h => h)
      have e2 := cell_chg d2 H.out (fun h => h)
      have hB2 := cell_chg hB H.out (fun h => h)
      clear d0 d1 d2
      obtain ⟨ek, hek⟩ : ∃ x, x = es.getD k default := ⟨_, rfl⟩
      rw [← hek] at e0 e1 e2
      have t1 : (ek.1.toList == q.toList) = false := by rw [hek]; exact hm k (by omega)
      clear hek hm
      go_wp2_with fail
      refine (clo21 hB2).mono ?_
      rintro e w' ⟨rfl, hc⟩
      rw [t1]
      have HK := hid (H.out.trans hc)
      clear hc
      go_wp2
      go_roundw
      case rel => exact ⟨k + 1, by omega, by go_num, HK⟩
      case measure => simp [intOf]; omega
    · go_wp2
      go_ret
      exact ⟨rfl, H.out⟩
end Go.Proofs.YbulkqwgFmt.sp
