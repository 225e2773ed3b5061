/-
  The told and tied card of 'rootlet.LawS0865CNilIffZero': the row's step (after the guide's worked SentryProofs, at this program's numbers and four sentinels) and the builder's one call.
-/
import Derived.Test.YbulkqwuFmtWalk
import Derived.Test.YbulkqwuFmtTie
import Derived.Test.YbulkqwuFmtCards
import Derived.ProofKit
import Derived.OpenShut
import Derived.Stop.JoinedAt
import Derived.Stop.JoinedTold
import Derived.Stop.Texts
import Derived.Stop.LaidErr
import Derived.Stop.LaidTwo
import Derived.SevenTiedAt
namespace Go.Proofs.YbulkqwuFmt
open Go.ChangeShapes Go.WideShapes Go.ChangeAt Go.RowKit Go.Kit
open Go.Extern.Stop Go.Stop Go.Extern
set_option linter.unusedVariables false

/-- A list that is met is met with its second entry struck. -/
theorem laidMet_skip {P : Program} {x y : String × DataW Unit} {r : List (String × DataW Unit)} {w : World} (h : laidMet P (x :: y :: r) w) : laidMet P (x :: r) w := by
  obtain ⟨ps, hv, hnd, hrows⟩ := h
  obtain ⟨n, d⟩ := x
  obtain ⟨m, e⟩ := y
  obtain ⟨g, t, cs, fuel, p, q, h1, h2, h3, h4, ⟨g', t', cs', fuel', p', q', _, _, _, _, hq, rfl⟩, rfl⟩ := hv
  refine ⟨_, ⟨g, t, cs, fuel, p, q', h1, h2, h3, h4, hq, rfl⟩, ?_, fun b off hm => hrows b off ?_⟩
  · exact List.Nodup.sublist (List.Sublist.append (List.Sublist.refl _) (List.sublist_append_right _ _)) hnd
  · rcases List.mem_append.1 hm with hm | hm
    · exact List.mem_append_left _ hm
    · exact List.mem_append_right _ (List.mem_append_right _ hm)

/-! ### The names of the variables, off the given rows -/
abbrev nB : String := Rows.lawS0865CNilIffZeroSpec.vars.getD 0 ""
abbrev nS : String := Rows.lawS0865CNilIffZeroSpec.vars.getD 1 ""
abbrev nR : String := Rows.lawS0865CNilIffZeroSpec.vars.getD 2 ""
abbrev nM : String := Rows.lawS0865CNilIffZeroSpec.vars.getD 3 ""

theorem Ybaf.own : ownKnob Ybaf.prog.godebug = none := by kernel_rfl
theorem Ybaf.laidOut : laidOutB Ybaf.pinned.checked.prog = true := by kernel_rfl
theorem Ybaf.stops : Ybaf.pinned.checked.prog.stops = ["fmt.errorf"] := by kernel_rfl
theorem Ybaf.stopKnobs : Ybaf.pinned.checked.prog.stopKnobs = [] := by kernel_rfl
theorem Ybaf.quiet (os : Os) : Stop.quiet Ybaf.pinned.checked.prog os := by
  intro k hk
  rw [Ybaf.stopKnobs] at hk
  cases hk
theorem Ybaf.gB : Ybaf.prog.globalNamed nB = some 0 := by kernel_rfl
theorem Ybaf.gS : Ybaf.prog.globalNamed nS = some 1 := by kernel_rfl
theorem Ybaf.gR : Ybaf.prog.globalNamed nR = some 2 := by kernel_rfl
theorem Ybaf.gM : Ybaf.prog.globalNamed nM = some 3 := by kernel_rfl
theorem Ybaf.gBType : (Ybaf.prog.globals[0]?).map (·.type) = some 24 := by kernel_rfl
theorem Ybaf.gSType : (Ybaf.prog.globals[1]?).map (·.type) = some 24 := by kernel_rfl
theorem Ybaf.gRType : (Ybaf.prog.globals[2]?).map (·.type) = some 24 := by kernel_rfl
theorem Ybaf.gMType : (Ybaf.prog.globals[3]?).map (·.type) = some 24 := by kernel_rfl
theorem Ybaf.cells50 : Ybaf.prog.cellsOf 50 = 1 := by kernel_rfl
theorem Ybaf.cells9 : Ybaf.prog.cellsOf 9 = 1 := by kernel_rfl
theorem Ybaf.row48 (u : TypeId) (h : Ybaf.prog.typeName? 3 u = some Ybaf.errName) : u = 48 := by
  refine typeName_ptr_named (P := Ybaf.prog) (nm := "errors.errorString") ?_ (by kernel_rfl) (by decide) u ?_
  · simp only [String.reduceAppend]; kernel_rfl
  · simp only [String.reduceAppend]; exact h

/-! ### One start that fits: the four variables hold their sentinels -/
def low (P : Program) : Nat := (World.holding P default ⟨#[], #[], []⟩).heap.size
def textIn {H : Type} : DataW H → List UInt8
  | .iface _ (.ptr (.agg [.lit (.string b)])) => b
  | _ => []
def sent (t : DataW Unit) : Obj := .cells #[.string ⟨(textIn t).toArray⟩] 50
def put (n : Nat) (k : Nat) (h : Array Obj) : Array Obj :=
  h.modify k fun
    | .cells _ t frozen => .cells #[.iface 48 (.pointer (some ⟨n, 0, none⟩))] t frozen
    | o => o
def laidWorld (P : Program) (os : Os) : World :=
  let w0 := World.holding P os ⟨#[sent Rows.laid_example_com_rootlet_rootlet_ErrBlockMismatch, sent Rows.laid_example_com_rootlet_rootlet_ErrTreeSize, sent Rows.laid_example_com_rootlet_rootlet_ErrTreeRoot, sent Rows.laid_example_com_rootlet_rootlet_ErrTreeMalformed], #[], []⟩
  { w0 with heap := put (low P + 3) 3 (put (low P + 2) 2 (put (low P + 1) 1 (put (low P) 0 w0.heap))) }
theorem laid_met (os : Os) (args : Array Value) : laidMet Ybaf.prog Rows.lawS0865CNilIffZeroRow.laid ((laidWorld Ybaf.prog os).forCall (fun _ _ => 0) ⟨#[], args, []⟩).memory :=
  laidMet_of_run (ps := [.cell 1 0, .cell (low Ybaf.prog + 1) 0, .cell 2 0, .cell (low Ybaf.prog + 2) 0, .cell 0 0, .cell (low Ybaf.prog) 0, .cell 3 0, .cell (low Ybaf.prog + 3) 0]) 8 (by kernel_rfl) (by kernel_rfl) (by kernel_rfl)

theorem vars_read4 {H : Type} (enc : TypeId × Value → H) {W : World} {x0 x1 x2 x3 : Value}
    (h0 : W.var? Ybaf.prog nB = some #[x0]) (h1 : W.var? Ybaf.prog nS = some #[x1]) (h2 : W.var? Ybaf.prog nR = some #[x2]) (h3 : W.var? Ybaf.prog nM = some #[x3])
    (i0 : IsIface x0) (i1 : IsIface x1) (i2 : IsIface x2) (i3 : IsIface x3) (sp : Nat → Bool) :
    DataW.TrodVars enc Ybaf.prog W sp [nB, nS, nR, nM] [tok enc x0, tok enc x1, tok enc x2, tok enc x3] [.cell 0 0, .cell 1 0, .cell 2 0, .cell 3 0] :=
  ⟨0, 24, #[x0], 1, [], [.cell 1 0, .cell 2 0, .cell 3 0], Ybaf.gB, Ybaf.gBType, h0, trod_held Ybaf.underlying24 i0 0,
    ⟨1, 24, #[x1], 1, [], [.cell 2 0, .cell 3 0], Ybaf.gS, Ybaf.gSType, h1, trod_held Ybaf.underlying24 i1 0,
      ⟨2, 24, #[x2], 1, [], [.cell 3 0], Ybaf.gR, Ybaf.gRType, h2, trod_held Ybaf.underlying24 i2 0,
        ⟨3, 24, #[x3], 1, [], [], Ybaf.gM, Ybaf.gMType, h3, trod_held Ybaf.underlying24 i3 0, rfl, rfl⟩, rfl⟩, rfl⟩, rfl⟩

theorem var?_below {P : Program} {W W' : World} {n : String} {g : Nat} {cs : Array Value} (hg : P.globalNamed n = some g) (hb : Below W.heap.size W W') (h : W.var? P n = some cs) : W'.var? P n = some cs := by
  unfold World.var? at h ⊢
  simp only [hg, Option.bind_some] at h ⊢
  have hlt : g < W.heap.size := by
    rcases Nat.lt_or_ge g W.heap.size with h' | h'
    · exact h'
    · simp [Array.getElem?_eq_none h'] at h
  rw [hb.block g hlt]
  exact h

set_option maxRecDepth 100000 in
theorem lifted (os : Os) (started : os.Started) (H : Type) (enc : TypeId × Value → H) :
    ReturnsInTold none {} Ybaf.checked os 3 .any Input.okWide ((OpenSpec.ofChange Rows.lawS0865CNilIffZeroSpec).preRow enc Ybaf.prog Ybaf.f3 [] false Rows.lawS0865CNilIffZeroRow.laid) (fun F => ((OpenSpec.ofChange Rows.lawS0865CNilIffZeroSpec).at F).post enc Ybaf.prog Ybaf.f3 false true false false) (aloneAtReturn Ybaf.prog) nothingAlways := by
  refine returnsInTold_of_row (C := Ybaf.checked) (s := OpenSpec.ofChange Rows.lawS0865CNilIffZeroSpec) (by kernel_rfl) Ybaf.own started (by kernel_rfl) Ybaf.func3
    (OpenSpec.witness_stopped_at (enc := enc) (C := Ybaf.checked) false (laidWorld Ybaf.prog os) #[.int .u64 0, .int .u64 0] rfl (by kernel_rfl) (by kernel_rfl) (by kernel_rfl)
      (OpenSpec.preRow_of_B rfl 8 (by kernel_rfl) (by kernel_rfl) (laid_met os _))) ?_
  intro F W base args ds gs before _ hF hval0 hW _ _ _ hL0 _
  have hval : ∀ (j : Nat) t v, Ybaf.f3.params[j]? = some t → args[j]? = some v → Value.okWide Ybaf.prog W .any base t v := hval0
  have hL : laidMet Ybaf.prog Rows.lawS0865CNilIffZeroRow.laid W := hL0
  have hW' := hW
  obtain ⟨p, q, hA0, hV0, rfl, hfz, hnd⟩ := hW
  have hA : DataW.TrodAll enc Ybaf.prog W 0 (fun _ => true) true Ybaf.f3.params.toList args.toList ds p := hA0
  have hV : DataW.TrodVars enc Ybaf.prog W (fun _ => true) [nB, nS, nR, nM] gs q := hV0
  rw [Ybaf.params3] at hA hval
  obtain ⟨v0, v1, d0, d1, p0, p1, rfl, rfl, rfl, h0, h1⟩ := trodAll_two hA
  obtain ⟨n0, rfl, rfl, rfl, wn0⟩ := open_int Ybaf.underlying22 (hval 0 22 v0 rfl rfl) h0
  obtain ⟨n1, rfl, rfl, rfl, wn1⟩ := open_int Ybaf.underlying22 (hval 1 22 v1 rfl rfl) h1
  -- the list reads: tree size, tree root, block mismatch, malformed
  obtain ⟨aS, aB, _, sB, cS, cB, tS, tB, hvS, hvB, _, _, _, hcB, _, _, nSB, hbS, hbB⟩ := laid_sentinels2 (laidMet_skip hL) Ybaf.gS Ybaf.gSType Ybaf.gB Ybaf.gBType Ybaf.underlying24 Ybaf.row48 Ybaf.underlying48 Ybaf.underlying50 rfl rfl Ybaf.underlying9 Ybaf.cells50 Ybaf.cells9
  obtain ⟨aR, aB', _, _, cR, cB', tR, tB', hvR, hvB', _, _, _, _, _, _, nRB, hbR, hbB'⟩ := laid_sentinels2 hL.tail Ybaf.gR Ybaf.gRType Ybaf.gB Ybaf.gBType Ybaf.underlying24 Ybaf.row48 Ybaf.underlying48 Ybaf.underlying50 rfl rfl Ybaf.underlying9 Ybaf.cells50 Ybaf.cells9
  obtain ⟨aB2, aM, _, _, cB2, cM, tB2, tM, hvB2, hvM, _, _, _, _, _, _, nBM, hbB2, hbM⟩ := laid_sentinels2 hL.tail.tail Ybaf.gB Ybaf.gBType Ybaf.gM Ybaf.gMType Ybaf.underlying24 Ybaf.row48 Ybaf.underlying48 Ybaf.underlying50 rfl rfl Ybaf.underlying9 Ybaf.cells50 Ybaf.cells9
  obtain rfl : aB = aB' := by simpa using hvB.symm.trans hvB'
  obtain rfl : aB = aB2 := by simpa using hvB.symm.trans hvB2
  obtain ⟨rfl, rfl⟩ := hV.unique (vars_read4 enc hvB hvS hvR hvM trivial trivial trivial trivial _)
  clear hA0 hV0 hval0
  have hg0 : W.cell? ⟨0, 0, none⟩ = some (.iface 48 (.pointer (some aB))) := by simpa using World.var?_cell Ybaf.gB hvB 0
  have hg1 : W.cell? ⟨1, 0, none⟩ = some (.iface 48 (.pointer (some aS))) := by simpa using World.var?_cell Ybaf.gS hvS 0
  have hg2 : W.cell? ⟨2, 0, none⟩ = some (.iface 48 (.pointer (some aR))) := by simpa using World.var?_cell Ybaf.gR hvR 0
  have hg3 : W.cell? ⟨3, 0, none⟩ = some (.iface 48 (.pointer (some aM))) := by simpa using World.var?_cell Ybaf.gM hvM 0
  have fin : ∀ (e : Ending) (W' : World), (e = .returned (.bool true) ∧ Below W.heap.size W W') → ∃ v, e = .returned v ∧ ((OpenSpec.ofChange Rows.lawS0865CNilIffZeroSpec).at F.told).post enc Ybaf.checked.prog Ybaf.f3 false true false false W #[.int .u64 n0, .int .u64 n1] v W' := by
    rintro e W' ⟨rfl, bel⟩
    refine ⟨_, rfl, _, _, _, [], [], [.cell 0 0, .cell 1 0, .cell 2 0, .cell 3 0], hW', ?_, ?_, ?_, bel.frame _, fun h => by cases h⟩
    · exact trodAll_mk1 (shut_bool Ybaf.underlying4 true)
    · exact trodAll_mk2 (p := []) (shut_int Ybaf.underlying22 wn0) (shut_int Ybaf.underlying22 wn1)
    · exact vars_read4 enc (var?_below Ybaf.gB bel hvB) (var?_below Ybaf.gS bel hvS) (var?_below Ybaf.gR bel hvR) (var?_below Ybaf.gM bel hvM) trivial trivial trivial trivial _
  by_cases hz : n0 = 0
  · subst hz
    exact (law_nil n1 W).mono fun e W' ⟨he, hw⟩ => fin e W' ⟨he, hw ▸ Below.refl _ _⟩
  · exact (law_bad F.told n0 n1 aB aS aR aM sB cB cS cR cM tB tS tR tM W hF hg0 hg1 hg2 hg3 hcB (Ne.symm nSB) (Ne.symm nRB) nBM hbB hbS hbR hbM (by simpa using hz)).mono fin

theorem card_holds : Rows.LawS0865CNilIffZeroToldSaid :=
  Claim7.holds_of_told_tied_any_at .later 3 Ybaf.f3 "fmt.errorf" [] [] _ _ _ _ _ (by kernel_rfl) rfl rfl rfl Ybaf.laidOut (by kernel_rfl) rfl ⟨rfl, rfl, rfl, rfl, rfl, rfl, rfl⟩ rfl rfl (by kernel_rfl) (by kernel_rfl) Ybaf.func3 (by kernel_rfl)
    (of_decide_eq_true (by kernel_rfl)) (of_decide_eq_true (by kernel_rfl)) Ybaf.stops.symm rfl Ybaf.stopKnobs.symm (by kernel_rfl)
    (by kernel_rfl) (by kernel_rfl) (by kernel_rfl) (by kernel_rfl) (by kernel_rfl) (by kernel_rfl) (by kernel_rfl) (by kernel_rfl) (by kernel_rfl) rfl (by kernel_rfl) rfl rfl
    rfl rfl
    rfl (by kernel_rfl) (by kernel_rfl) (by kernel_rfl) (by decide) (by kernel_rfl) lawS0865CNilIffZero_row_tie
    (OpenClaim.moreEntering_of (by kernel_rfl) (by kernel_rfl) (by kernel_rfl) (by kernel_rfl) (by kernel_rfl) (by kernel_rfl) (by kernel_rfl) (by kernel_rfl) (by kernel_rfl) (by kernel_rfl))
    ⟨_, WideRow.started_initial, Ybaf.quiet _⟩
    (fun os started _ H enc _ => lifted os started H enc)
end Go.Proofs.YbulkqwuFmt
