import Derived.Test.YbulkqwgFmtC2
import Derived.Laws.ResultCell
import Derived.LaidEqlPtr
namespace Go.Proofs.YbulkqwgFmt.sp
open Go.RowKit
set_option linter.unusedVariables false
set_option maxRecDepth 100000

theorem cell_alloc {w : World} {g k : Nat} {v : Value} (o : Obj) (h : w.cell? ⟨g, k, none⟩ = some v) : (w.alloc o).cell? ⟨g, k, none⟩ = some v := by
  rw [World.cell?_of_block (w := w) (a := ⟨g, k, none⟩) (Below.heap_alloc _ _ _ (World.block_lt_of_cell? _ _ h))]; exact h
theorem size58 : (Ybaf.prog.info? 58).map (fun i => i.size) = some 6 := by kernel_rfl
theorem Tab.alloc {w : World} (h : Tab w) (o : Obj) : Tab (w.alloc o) := fun k hk => cell_alloc o (h k hk)
theorem Tab.chg {S : Nat → Prop} {w w' : World} (h : Tab w) (hc : Chg S w w') (hS : ¬ S 2) : Tab w' := fun k hk => by
  have hh := h k hk
  rw [World.cell?_of_block (w := w) (a := ⟨2, 2 ^ k - 1, none⟩) (hc.block 2 (World.block_lt_of_cell? _ _ hh) hS)]; exact hh
theorem results_cell_tmp2 {fn : Func} {p u v : Tmp} {ty : TypeId} (h : fn.results = #[.cell p ty, .tmp u, .tmp v]) (tmps : Array Value) (P : Program) (w : World) :
    (results fn tmps).run P w =
      ((asAddr (tmps.getD p undef)).run P w).andThen fun a w₁ => ((loadVar ty a).run P w₁).andThen fun x w₂ => .ok (.tuple #[x, tmps.getD u undef, tmps.getD v undef]) w₂ := by
  simp only [results, h]
  simp [Sem.run_bind, Result.andThen]

set_option maxHeartbeats 4000000 in
/-- '(*Spool).take' of a partition whose one file has a group free. -/
theorem take24 {S PS PP FA F U i P n k D : Nat} {w : World} (hne : F ≠ U) (hk : k < n) (hn : n ≤ 5) (hi : i ≤ 1) (hT : Tab w) (h : FileAt w F U i P n k)
    (s3 : w.cell? ⟨S, 3, none⟩ = some (.slice (some ⟨PS, 0, none⟩) 2 2)) (p4 : w.cell? ⟨PP, 4, none⟩ = some (.slice (some ⟨FA, 0, none⟩) 1 1)) (f0 : w.cell? ⟨FA, 0, none⟩ = some (.pointer (some ⟨F, 0, none⟩))) :
    Calls Ybaf.prog 24 #[.pointer (some ⟨S, 0, none⟩), .pointer (some ⟨PP, 0, none⟩)] w fun e w' => e = .returned (.tuple #[.agg #[.int .i64 (i : Int), .int .i64 (k : Int)], .bool true, .bool false]) ∧ FileAt w' F U i P n (k + 1) ∧ Chg (fun g => g = F ∨ g = U) w w' := by
  have l1 := h.1.lt
  have l2 := h.2.lt
  have H37 := hid (take37 (w := w.alloc (.cells #[.int .i64 0, .int .i64 0] 79)) hne hk hn (hT.alloc _) ⟨h.1.alloc _, h.2.alloc _⟩)
  replace s3 := cell_alloc (.cells #[.int .i64 0, .int .i64 0] 79) s3
  replace p4 := cell_alloc (.cells #[.int .i64 0, .int .i64 0] 79) p4
  replace f0 := cell_alloc (.cells #[.int .i64 0, .int .i64 0] 79) f0
  clear hT h
  go_enter Ybaf.func24, Ybaf.ntmps24
  go_wp2
  go_loopw [1, 16] (fun p i wr => p = .pointer (some ⟨PP, 0, none⟩) ∧ i = .int .i64 0 ∧ wr = w.alloc (.cells #[.int .i64 0, .int .i64 0] 79)) (fun _ _ _ => 0)
  case atStart => exact ⟨rfl, rfl, rfl⟩
  case round =>
    obtain ⟨rfl, rfl, rfl⟩ := hrel
    go_wp2
    go_loopw [23] (fun i wr => i = .int .i64 0 ∧ wr = w.alloc (.cells #[.int .i64 0, .int .i64 0] 79)) (fun _ _ => 0)
    case atStart => exact ⟨rfl, rfl⟩
    case round =>
      obtain ⟨rfl, rfl⟩ := hrel
      go_wp2_with fail
      refine H37.out.mono ?_
      rintro e w' ⟨rfl, hf, hc⟩
      have HF := hid hf
      have HC := hid hc
      have f4 := hf.1.cell (k := 4) rfl
      have aR := (at_new w [Value.int .i64 0, .int .i64 0] 79).chg hc (by omega)
      have r0 := aR.cell (k := 0) rfl
      have r1 := aR.cell (k := 1) rfl
      have z0 := aR.frozen 0
      have z1 := aR.frozen 1
      clear hf hc aR
      go_wp2
      (try simp only [Exit.inBlock, Exit.then])
      refine bodyPost_ret (v := .tuple #[.agg #[.int .i64 (i : Int), .int .i64 (k : Int)], .bool true, .bool false]) ?_ rfl ⟨rfl, ⟨?_, ?_⟩, ?_⟩
      · rw [results_cell_tmp2 rfl]
        go_simp
      · exact (HF.out.1.set_ne (by omega) 0 _).set_ne (by omega) 1 _
      · exact (HF.out.2.set_ne (by omega) 0 _).set_ne (by omega) 1 _
      · refine Chg.setCell (Chg.setCell ?_ (.inr (Nat.le_refl _)) _ _) (.inr (Nat.le_refl _)) _ _
        exact ((Chg.refl _ w).alloc _).trans HC.out

set_option maxHeartbeats 4000000 in
/-- '(*Spool).take' of the default partition, its one file full. -/
theorem take24_def {S PS PP FA F U i P n : Nat} {w : World} (hn : n ≤ 5) (hT : Tab w) (h : FileAt w F U i P n n)
    (s3 : w.cell? ⟨S, 3, none⟩ = some (.slice (some ⟨PS, 0, none⟩) 2 2)) (s5 : w.cell? ⟨S, 5, none⟩ = some (.pointer (some ⟨PP, 0, none⟩))) (p4 : w.cell? ⟨PP, 4, none⟩ = some (.slice (some ⟨FA, 0, none⟩) 1 1)) (f0 : w.cell? ⟨FA, 0, none⟩ = some (.pointer (some ⟨F, 0, none⟩))) :
    Calls Ybaf.prog 24 #[.pointer (some ⟨S, 0, none⟩), .pointer (some ⟨PP, 0, none⟩)] w fun e w' => e = .returned (.tuple #[.agg #[.int .i64 0, .int .i64 0], .bool false, .bool false]) ∧ Chg (fun _ => False) w w' := by
  have H37 := hid (take37_none (w := w.alloc (.cells #[.int .i64 0, .int .i64 0] 79)) hn (hT.alloc _) ⟨h.1.alloc _, h.2.alloc _⟩)
  replace s3 := cell_alloc (.cells #[.int .i64 0, .int .i64 0] 79) s3
  replace s5 := cell_alloc (.cells #[.int .i64 0, .int .i64 0] 79) s5
  replace p4 := cell_alloc (.cells #[.int .i64 0, .int .i64 0] 79) p4
  replace f0 := cell_alloc (.cells #[.int .i64 0, .int .i64 0] 79) f0
  obtain ⟨j, hj, hjs⟩ := Option.map_eq_some_iff.1 size58
  have hq := run_eql_ptr_same (P := Ybaf.prog) (w.alloc (.cells #[.int .i64 0, .int .i64 0] 79)) ⟨PP, 0, none⟩ Ybaf.underlying53 hj
  clear hT h hj hjs
  go_enter Ybaf.func24, Ybaf.ntmps24
  go_wp2
  go_loopw [1, 16] (fun p i wr => p = .pointer (some ⟨PP, 0, none⟩) ∧ i = .int .i64 0 ∧ wr = w.alloc (.cells #[.int .i64 0, .int .i64 0] 79)) (fun _ _ _ => 0)
  case atStart => exact ⟨rfl, rfl, rfl⟩
  case round =>
    obtain ⟨rfl, rfl, rfl⟩ := hrel
    go_wp2
    go_loopw [23] (fun i wr => (i = .int .i64 0 ∨ i = .int .i64 1) ∧ wr = w.alloc (.cells #[.int .i64 0, .int .i64 0] 79)) (fun i _ => 2 - (intOf i).toNat)
    case atStart => exact ⟨.inl rfl, rfl⟩
    case round =>
      obtain ⟨rfl | rfl, rfl⟩ := hrel
      · go_wp2_with fail
        refine H37.out.mono ?_
        rintro e w' ⟨rfl, rfl⟩
        go_wp2
        go_roundw
        case rel => exact ⟨.inr rfl, trivial⟩
        case measure => simp [intOf]
      · go_wp2
        (try simp only [Exit.inBlock, Exit.then])
        refine bodyPost_ret (v := .tuple #[.agg #[.int .i64 0, .int .i64 0], .bool false, .bool false]) ?_ rfl ⟨rfl, ?_⟩
        · rw [results_cell_tmp2 rfl]
          go_simp
        · repeat' (first | exact Chg.refl _ _ | refine Chg.setCell ?_ (.inr (Nat.le_refl _)) _ _ | refine Chg.alloc ?_ _)
set_option maxHeartbeats 4000000 in
/-- '(*Spool).take' of a partition that is not the default one and overflows nowhere, its one file full. -/
theorem take24_wait {S PS PP FA F U i P n D : Nat} {w : World} (hn : n ≤ 5) {cP cD : List Value} (hD : PP ≠ D) (aP : At w PP cP 58) (aD : At w D cD 58) (hT : Tab w) (h : FileAt w F U i P n n)
    (s3 : w.cell? ⟨S, 3, none⟩ = some (.slice (some ⟨PS, 0, none⟩) 2 2)) (s5 : w.cell? ⟨S, 5, none⟩ = some (.pointer (some ⟨D, 0, none⟩))) (p4 : w.cell? ⟨PP, 4, none⟩ = some (.slice (some ⟨FA, 0, none⟩) 1 1)) (p5 : w.cell? ⟨PP, 5, none⟩ = some (.pointer none)) (f0 : w.cell? ⟨FA, 0, none⟩ = some (.pointer (some ⟨F, 0, none⟩))) :
    Calls Ybaf.prog 24 #[.pointer (some ⟨S, 0, none⟩), .pointer (some ⟨PP, 0, none⟩)] w fun e w' => e = .returned (.tuple #[.agg #[.int .i64 0, .int .i64 0], .bool false, .bool true]) ∧ Chg (fun _ => False) w w' := by
  have H37 := hid (take37_none (w := w.alloc (.cells #[.int .i64 0, .int .i64 0] 79)) hn (hT.alloc _) ⟨h.1.alloc _, h.2.alloc _⟩)
  replace s3 := cell_alloc (.cells #[.int .i64 0, .int .i64 0] 79) s3
  replace s5 := cell_alloc (.cells #[.int .i64 0, .int .i64 0] 79) s5
  replace p4 := cell_alloc (.cells #[.int .i64 0, .int .i64 0] 79) p4
  replace p5 := cell_alloc (.cells #[.int .i64 0, .int .i64 0] 79) p5
  replace f0 := cell_alloc (.cells #[.int .i64 0, .int .i64 0] 79) f0
  obtain ⟨j, hj, hjs⟩ := Option.map_eq_some_iff.1 size58
  have hq := run_eql_ptr_other (P := Ybaf.prog) (w.alloc (.cells #[.int .i64 0, .int .i64 0] 79)) (a := ⟨PP, 0, none⟩) (b := ⟨D, 0, none⟩) Ybaf.underlying53 hj (by omega) (by intro e; cases e; exact hD rfl) (aP.alloc _) (aD.alloc _)
  clear hT h hj hjs aP aD
  go_enter Ybaf.func24, Ybaf.ntmps24
  go_wp2
  go_loopw [1, 16] (fun p i wr => p = .pointer (some ⟨PP, 0, none⟩) ∧ i = .int .i64 0 ∧ wr = w.alloc (.cells #[.int .i64 0, .int .i64 0] 79)) (fun _ _ _ => 0)
  case atStart => exact ⟨rfl, rfl, rfl⟩
  case round =>
    obtain ⟨rfl, rfl, rfl⟩ := hrel
    go_wp2
    go_loopw [23] (fun i wr => (i = .int .i64 0 ∨ i = .int .i64 1) ∧ wr = w.alloc (.cells #[.int .i64 0, .int .i64 0] 79)) (fun i _ => 2 - (intOf i).toNat)
    case atStart => exact ⟨.inl rfl, rfl⟩
    case round =>
      obtain ⟨rfl | rfl, rfl⟩ := hrel
      · go_wp2_with fail
        refine H37.out.mono ?_
        rintro e w' ⟨rfl, rfl⟩
        go_wp2
        go_roundw
        case rel => exact ⟨.inr rfl, trivial⟩
        case measure => simp [intOf]
      · go_wp2
        (try simp only [Exit.inBlock, Exit.then])
        refine bodyPost_ret (v := .tuple #[.agg #[.int .i64 0, .int .i64 0], .bool false, .bool true]) ?_ rfl ⟨rfl, ?_⟩
        · rw [results_cell_tmp2 rfl]
          go_simp
        · repeat' (first | exact Chg.refl _ _ | refine Chg.setCell ?_ (.inr (Nat.le_refl _)) _ _ | refine Chg.alloc ?_ _)
end Go.Proofs.YbulkqwgFmt.sp
