import Derived.Test.YbulkqpuQ
import Derived.Test.YbulkqpuQ10
import Derived.Deep.RegionHeld3
import Derived.BigRegion
namespace Go.Proofs.Ybulkqpu.mv
open Go.RowKit
set_option linter.unusedVariables false
set_option maxRecDepth 1000000
set_option linter.unusedSimpArgs false

theorem wp_end {P : Program} {Q : Exit → Act → World → Prop} {c : Code} {a : Act} {w : World} (h : c.wp P (Exit.then (fun a w => Q .normal a w) Q) a w) : c.wp P Q a w :=
  Code.wp_mono (fun e a w q => by cases e <;> exact q) h
theorem glue {P : Program} {Q : Exit → Act → World → Prop} {x y : Code} {a : Act} {w : World} (h : x.wp P (Exit.then (fun a w => y.wp P Q a w) Q) a w) : (Code.seq x y).wp P Q a w := wp_seq h

theorem new_at' (w : World) (cs : Array Value) (t : TypeId) : (w.alloc (.cells cs t)).heap[w.heap.size]? = some (.cells cs t (0, 0)) := by
  show (w.heap.push _)[w.heap.size]? = _
  simp

set_option maxHeartbeats 4000000 in
/-- '(*balancer).make'. -/
theorem make7 {base M np nb : Nat} {o : Bl} {ef : Nat → Nat} {ld us : Nat → Int} {F : Nat → Value} {xs : Nat → List Nat} {p fm to kf kp y : Nat} {w : World}
    (hp : p < np) (hfm : fm < nb) (hto : to < nb) (hne : fm ≠ to) (hnp : np ≤ 1024) (hnb : nb ≤ 8) (hm : Mem base M np nb o ef ld us F xs w)
    (hl : ∀ j, (xs j).length ≤ 1999) (hkf : (xs p)[kf]? = some fm) (hkf1 : ∀ j, j < kf → (xs p)[j]? ≠ some fm)
    (hkp : (xs (np + fm))[kp]? = some p) (hkp1 : ∀ j, j < kp → (xs (np + fm))[j]? ≠ some p) (hy : (xs (np + fm))[(xs (np + fm)).length - 1]? = some y) :
    Calls Yba.prog 7 #[.pointer (some ⟨o.B, 0, none⟩), .agg #[.int .i64 (p : Int), .int .i64 (fm : Int), .int .i64 (to : Int), .int .i64 0, .int .i64 0]] w fun e w' => e = .returned (.tuple #[]) ∧
      (∃ M' F', Mem base M' np nb o ef ld (upd (upd us fm (IntKind.i64.wrap (us fm - ld p))) to (IntKind.i64.wrap (us to + ld p))) F'
        (upd (upd (upd xs p ((xs p).set kf to)) (np + fm) ((xs (np + fm)).set kp y).dropLast) (np + to) (xs (np + to) ++ [p])) w') ∧ Ch base M w w' := by
  have n1 : np + fm ≠ p := by omega
  have n2 : np + to ≠ p := by omega
  have n3 : np + to ≠ np + fm := by omega
  have hMs := hm.hM
  have hbs : base ≤ w.heap.size := by have := hm.lo; have := hm.hi; omega
  -- the two rows' values
  obtain ⟨g, cap, hF1⟩ : ∃ g cap, F p = .slice (some ⟨g, 0, none⟩) (xs p).length cap := by
    rcases owns_form (hm.rows p (by omega)) with ⟨_, h⟩ | ⟨g, cap, h⟩
    · have := (List.getElem?_eq_some_iff.1 hkf).1; omega
    · exact ⟨g, cap, h⟩
  obtain ⟨g2, cap2, hF2, hc2, hc3⟩ : ∃ g cap, F (np + fm) = .slice (some ⟨g, 0, none⟩) (xs (np + fm)).length cap ∧ (xs (np + fm)).length ≤ cap ∧ cap ≤ maxLen := by
    rcases (hm.rows (np + fm) (by omega)).2 with ⟨_, h⟩ | ⟨g, cap, cur, h, _, _, h3, h4, _⟩
    · have := (List.getElem?_eq_some_iff.1 hkp).1; omega
    · exact ⟨g, cap, h, h3, h4⟩
  have hkl : kp < (xs (np + fm)).length := (List.getElem?_eq_some_iff.1 hkp).1
  refine calls_of_wp Yba.func7 rfl ?_
  simp only [Yba.ntmps7, List.size_toArray, List.length_cons, List.length_nil, Nat.reduceAdd, Nat.reduceSub, Array.replicate_succ, Array.replicate_zero, List.push_toArray, List.append_toArray, List.nil_append, List.cons_append]
  refine glue (q0 (hid ?_))
  intro  w0 e0
  have ch0 : Ch base M w w0 := by rw [e0]; exact Ch.of_below hbs ((Below.refl _ _).alloc (Nat.le_refl _) _)
  have m0 : Mem base M np nb o ef ld us F xs w0 := hm.below (by rw [e0]; exact (Below.refl _ _).alloc hMs _)
  have mv0 : MvAt w.heap.size p fm to w0 := by
    rw [e0]
    have hb := new_at' w #[Value.int .i64 (p : Int), .int .i64 (fm : Int), .int .i64 (to : Int), .int .i64 0, .int .i64 0] 40
    exact ⟨by rw [cell_of_row _ _ 0 _ _ _ hb]; rfl, by rw [cell_of_row _ _ 1 _ _ _ hb]; rfl, by rw [cell_of_row _ _ 2 _ _ _ hb]; rfl⟩
  clear e0
  -- load := bl.loads[m.partition]
  refine glue (q1 hp hfm hto hnp hnb hMs mv0 m0 (hid ?_))
  intro _ _ _ _ _ _ _ _ w1 e1
  have ch1 : Ch base M w w1 := by rw [e1]; exact ch0.drew
  have m1 : Mem base M np nb o ef ld us F xs w1 := by rw [e1]; exact m0.draw
  have mv1 : MvAt w.heap.size p fm to w1 := by rw [e1]; exact mv0
  clear e1 m0 mv0 ch0
  refine glue (q2 hp hfm hto hnp hnb hMs mv1 m1 (hid ?_))
  intro _ _ _ _ _ _ _ _ _ _ _ w2 ⟨m2, c2⟩
  have ch2 := ch1.trans c2
  have mv2 := c2.mv hMs mv1
  clear m1 mv1 ch1 c2
  refine glue (q3 hp hfm hto hnp hnb hMs mv2 m2 (hid ?_))
  intro _ _ _ _ _ _ _ _ _ _ _ w3 ⟨m3, c3⟩
  have ch3 := ch2.trans c3
  have mv3 := c3.mv hMs mv2
  rw [upd_ne us fm _ (Ne.symm hne)] at m3
  clear m2 mv2 ch2 c3
  refine glue (q4 hp hfm hto hnp hnb hMs mv3 m3 (hid ?_))
  intro _ _ _ _ _ _ _ _ w4 e4
  have ch4 : Ch base M w w4 := by rw [e4]; exact ch3.drew
  have m4 := m3.draw
  rw [← e4] at m4
  have mv4 : MvAt w.heap.size p fm to w4 := by rw [e4]; exact mv3
  clear e4 m3 mv3 ch3
  rw [hF1]
  refine glue (q5 hp hfm hto hnp hnb hMs mv4 m4 hF1 hkf hkf1 (Nat.le_trans (hl p) (by omega)) (hid ?_))
  intro _ _ _ _ _ _ _ _ w5 ⟨m5, c5⟩
  have ch5 := ch4.trans c5
  have mv5 := c5.mv hMs mv4
  clear m4 mv4 ch4 c5
  refine glue (q6 hp hfm hto hnp hnb hMs mv5 m5 (hid ?_))
  intro _ _ _ _ _ _ _ _ w6 e6
  have ch6 : Ch base M w w6 := by rw [e6]; exact ch5.drew
  have m6 := m5.draw
  rw [← e6] at m6
  have mv6 : MvAt w.heap.size p fm to w6 := by rw [e6]; exact mv5
  clear e6 m5 mv5 ch5
  rw [hF2]
  have x1 : upd xs p ((xs p).set kf to) (np + fm) = xs (np + fm) := upd_ne _ _ _ n1
  refine glue (q7 hp hfm hto hnp hnb hMs mv6 m6 hF2 (by rw [x1]; exact hkp) (by rw [x1]; exact hkp1) (by rw [x1]; exact Nat.le_trans (hl _) (by omega)) (hid ?_))
  intro _ _ _ _ w7 e7
  subst e7
  refine glue (q8 (p := 0) (MB := 0) (to := 0) hfm hF2 (by rw [x1]; exact hkl) (y := y) (by rw [x1]; exact hy) (by rw [x1]; exact Nat.le_trans (hl _) (by omega)) m6 (hid ?_))
  intro _ _ _ _ _ _ _ _ _ w8 ⟨m8, c8⟩
  have ch8 := ch6.trans c8
  have mv8 := c8.mv hMs mv6
  clear m6 mv6 ch6 c8
  refine glue (q9 hp hfm hto hnp hnb hMs mv8 m8 hF2 (by omega) (Nat.le_trans (hl _) (by omega)) hc2 hc3 (hid ?_))
  intro _ _ _ _ _ _ _ _ _ _ _ _ w9 ⟨m9, c9⟩
  have ch9 := ch8.trans c9
  have mv9 := c9.mv hMs mv8
  clear m8 mv8 ch8 c9
  refine wp_end (q10 hp hfm hto hnp hnb hMs mv9 m9 ?_ (hid ?_))
  · rw [upd_ne _ _ _ n3, upd_ne _ _ _ n3, upd_ne _ _ _ n2]; exact Nat.le_trans (hl _) (by omega)
  intro _ _ _ _ _ _ _ _ _ _ _ _ _ _ _ _ _ _ _ w10 ⟨⟨v, m10⟩, c10⟩
  go_end0
  refine ⟨rfl, ⟨_, _, m10.congr (fun _ _ => rfl) (fun _ _ => rfl) (fun _ _ => rfl) (fun _ _ => rfl) (fun j _ => ?_)⟩, ch9.trans c10⟩
  by_cases j1 : j = np + to
  · subst j1
    rw [upd_same, upd_ne _ _ _ n3, upd_ne _ _ _ n3, upd_ne _ _ _ n2, upd_same]
  · rw [upd_ne _ _ _ j1, upd_ne _ _ _ j1]
    by_cases j2 : j = np + fm
    · subst j2
      rw [upd_same, upd_same, upd_same, x1]
    · rw [upd_ne _ _ _ j2, upd_ne _ _ _ j2, upd_ne _ _ _ j2]
end Go.Proofs.Ybulkqpu.mv
