import Derived.Test.YbulkqwgFmtE17
import Derived.Conc.LoneSelectN
import Derived.Conc.LoneCalls
/-! A walk in the frame of an ordinary call: so that it can go through a select. -/
namespace Go.Proofs.YbulkqwgFmt.sp
open Go.RowKit Go.Conc
set_option linter.unusedVariables false

/-- As 'Code.wp', in frames that no early call made. -/
def wpn (P : Program) (c : Code) (Q : Exit → Act → World → Prop) (a : Act) (w : World) : Prop :=
  ∀ (b : Frame) (k : List Item) (cs : List Frame), b.kind = .normal → ∃ e a' w', Q e a' w' ∧ Arrives P (lone (b.at a (.code c :: k)) cs w) b k cs e a' w'

section
variable {P : Program} {Q : Exit → Act → World → Prop} {a : Act} {w : World}
theorem wpn_of_wp {c : Code} (h : c.wp P Q a w) : wpn P c Q a w := fun b k cs _ => h b k cs
theorem wpn_seq {x y : Code} (h : wpn P x (Exit.then (wpn P y Q) Q) a w) : wpn P (.seq x y) Q a w := by
  intro b k cs hb
  obtain ⟨e, a₁, w₁, hq, harr⟩ := h b (.code y :: k) cs hb
  by_cases he : e = .normal
  · subst he
    obtain ⟨e₂, a₂, w₂, hq₂, harr₂⟩ := hq b k cs hb
    exact ⟨e₂, a₂, w₂, hq₂, .of_steps (.head step_seq harr) harr₂⟩
  · refine ⟨e, a₁, w₁, ?_, .of_steps (.one step_seq) (.pass (x := .code y) rfl (fun _ _ => .inl he) ?_)⟩
    · cases e <;> first | exact hq | exact absurd rfl he
    · exact harr
theorem wpn_cond {c : Operand} {x y : Code} {t : Bool} (hc : a.eval c = .bool t) (h : wpn P (if t then x else y) Q a w) : wpn P (.cond c x y) Q a w :=
  fun b k cs hb => let ⟨e, a', w', q, r⟩ := h b k cs hb; ⟨e, a', w', q, .of_steps (.one (step_cond hc)) r⟩
theorem wpn_block {id : Nat} {c : Code} (h : wpn P c (Exit.inBlock id Q) a w) : wpn P (.block id c) Q a w := by
  intro b k cs hb
  obtain ⟨e, a₁, w₁, hq, harr⟩ := h b (.inBlock id :: k) cs hb
  cases e with
  | normal => exact ⟨.normal, a₁, w₁, hq, .head step_block (Steps.trans harr (.one step_inBlock))⟩
  | exit id' =>
    by_cases hid : id' = id
    · simp only [Exit.inBlock, hid, if_true] at hq
      exact ⟨.normal, a₁, w₁, hq, .head step_block (harr k (by simp [exitTo, hid]))⟩
    · simp only [Exit.inBlock, hid, if_false] at hq
      refine ⟨.exit id', a₁, w₁, hq, fun k' hk => .head step_block (harr k' ?_)⟩
      have : (id == id') = false := by simp; exact fun h => hid h.symm
      simp [exitTo, this, hk]
  | goto l => exact ⟨_, a₁, w₁, hq, fun k' hk => .head step_block (harr k' (by simp [gotoIn, hk]))⟩
  | ret => exact ⟨_, a₁, w₁, hq, .of_steps (.one step_block) harr⟩
  | panic ch => exact ⟨_, a₁, w₁, hq, .of_steps (.one step_block) harr⟩
  | outgrown => exact ⟨_, a₁, w₁, hq, .of_steps (b := b) (k := k) (cs := cs) (e := .outgrown) (.one step_block) harr⟩
/-- A loop whose first round leaves it. -/
theorem wpn_loop1 {c : Code} (h : wpn P c (Exit.then (fun _ _ => False) Q) a w) : wpn P (.loop c) Q a w := by
  intro b k cs hb
  obtain ⟨e, a₁, w₁, hq, harr⟩ := h b (.inLoop c :: k) cs hb
  by_cases he : e = .normal
  · subst he; exact hq.elim
  · refine ⟨e, a₁, w₁, ?_, .of_steps (.one step_loop) (.pass (x := .inLoop c) rfl (fun _ _ => .inl he) harr)⟩
    cases e <;> first | exact hq | exact absurd rfl he
/-- A region that begins with a select, the first case of which receives from a closed channel, and no other can proceed. -/
theorem wpn_region_sel {id : Nat} {ops : Array Oper} {o : Oper} {rest : List Nat} {cases' : Array CommCase} {c cap s r : Nat} {z : Value} {tm : Bool} (hr : List.range ops.size = 0 :: rest) (ho : ops[0]? = some o) (hw : Region.wanted o (yielded ops a.tmps) = true)
    (hx : (execOp a.eval o).run P w = .ok (.comm cases' true .select) w) (hk : cases'[0]? = some (rcase c z)) (hn : ∀ (m : Nat) (c' : CommCase), m ≠ 0 → cases'[m]? = some c' → NoWay w c') (hc : w.heap[c]? = some (.chan cap #[] true s r tm))
    (h : wpOps P ops Q rest (a.put o.dst (commResult cases' .select 0 z false)) w) : wpn P (.region id ops false) Q a w := by
  intro b k cs hb
  obtain ⟨e, a', w', hq, harr⟩ := wp_ops rest _ w h b k cs
  refine ⟨e, a', w', hq, .of_steps (.head step_region ?_) harr⟩
  rw [hr]
  refine .one ?_
  rw [lone_eq_solo, step_lone_sel_recv_shut (k := 0) (stepG_comm ho hw (by rw [hb]; simp) hx) hk hn hc, Frame.finish_at, ho]
  rfl
theorem wpn_region_sel' {id : Nat} {o : Oper} {l : List Oper} {cases' : Array CommCase} {c cap s r : Nat} {z : Value} {tm : Bool} (hw : Region.wanted o (yielded (o :: l).toArray a.tmps) = true)
    (hx : (execOp a.eval o).run P w = .ok (.comm cases' true .select) w) (hk : cases'[0]? = some (rcase c z)) (hn : ∀ (m : Nat) (c' : CommCase), m ≠ 0 → cases'[m]? = some c' → NoWay w c') (hc : w.heap[c]? = some (.chan cap #[] true s r tm))
    (h : wpList P (o :: l).toArray Q l (a.put o.dst (commResult cases' .select 0 z false)) w) : wpn P (.region id (o :: l).toArray false) Q a w := by
  refine wpn_region_sel (rest := List.range' 1 l.length) ?_ (by simp) hw hx hk hn hc ?_
  · rw [List.range_eq_range', List.size_toArray, List.length_cons, List.range'_succ]
  · rw [wpOps_eq_wpList l 1 (fun j => by simp [Nat.add_comm 1 j])]
    exact h
theorem calls_of_wpn {f : FuncId} {fn : Func} {c : Code} {args : Array Value} {R : Ending → World → Prop} (hf : P.funcs[f]? = some fn) (hb : fn.body = some c)
    (h : wpn P c (bodyPost P fn R) { tmps := args ++ Array.replicate (fn.ntmps - args.size) undef, defers := [] } w) : Calls P f args w R := by
  intro cs
  let b : Frame := { (default : Frame) with fn := f, kind := .normal }
  have henter : Frame.enter P f args .normal = b.at { tmps := args ++ Array.replicate (fn.ntmps - args.size) undef, defers := [] } [.code c] := by
    simp [Frame.enter, Frame.at, hf, hb, b]
  obtain ⟨e, a', w', hq, harr⟩ := h b [] cs rfl
  rw [← henter] at harr
  cases e with
  | normal =>
    obtain ⟨hd, v, hr, hR⟩ := hq
    exact ⟨.returned v, w', _, hR, Steps.trans harr (.one step_end), rfl, rfl, hd, rfl, fn, hf, hr⟩
  | ret =>
    obtain ⟨hd, v, hr, hR⟩ := hq
    obtain ⟨todo, hs⟩ := harr
    exact ⟨.returned v, w', _, hR, hs, rfl, rfl, hd, rfl, fn, hf, hr⟩
  | panic chain =>
    obtain ⟨hd, hR⟩ := hq
    obtain ⟨todo, hs⟩ := harr
    exact ⟨.panicked chain, w', _, hR, hs, rfl, rfl, hd, fn, hf⟩
  | exit id => exact hq.elim
  | goto l => exact hq.elim
  | outgrown => exact ⟨.outgrown, w', b, hq, harr.resolve_left (by simp [b]), rfl, trivial⟩
end
end Go.Proofs.YbulkqwgFmt.sp
