/-
  The told and tied card of 'spool.LawS0864CTwoParts': the row's step (after the guide's worked SentryProofs, at this program's numbers: a table and two sentinels) and the builder's one call.
-/
import Derived.Test.YbulkqwgFmtD9
import Derived.Test.YbulkqwgFmtTie
import Derived.Test.YbulkqwgFmtCards
import Derived.ProofKit
import Derived.OpenShut
import Derived.Stop.JoinedAt
import Derived.Stop.JoinedTold
import Derived.Stop.Texts
import Derived.Stop.LaidErr
import Derived.Stop.LaidTwo
import Derived.SevenTiedAt
import Derived.Lib.LaidTab
namespace Go.Proofs.YbulkqwgFmt
open Go.ChangeShapes Go.WideShapes Go.ChangeAt Go.RowKit Go.Kit
open Go.Extern.Stop Go.Stop Go.Extern
set_option linter.unusedVariables false

/-! ### The names of the variables, off the given rows -/
abbrev nF : String := Rows.lawS0864CTwoPartsSpec.vars.getD 0 ""
abbrev nR : String := Rows.lawS0864CTwoPartsSpec.vars.getD 1 ""
abbrev nT : String := (Rows.lawS0864CTwoPartsRow.laid.map (·.1)).getD 0 ""

/-- The name of the type that a datum behind an interface bears. -/
def nameIn {H : Type} : DataW H → String
  | .iface n _ => n
  | _ => ""
abbrev Ybaf.errName : String := nameIn (H := Unit) Rows.laid_example_com_spoolwright_spoolwright_internal_spool_ErrFull
theorem Ybaf.own : ownKnob Ybaf.prog.godebug = none := by kernel_rfl
theorem Ybaf.laidOut : laidOutB Ybaf.pinned.checked.prog = true := by kernel_rfl
theorem Ybaf.stops : Ybaf.pinned.checked.prog.stops = ["fmt.errorf"] := by kernel_rfl
theorem Ybaf.stopKnobs : Ybaf.pinned.checked.prog.stopKnobs = [] := by kernel_rfl
theorem Ybaf.quiet (os : Os) : Stop.quiet Ybaf.pinned.checked.prog os := by
  intro k hk
  rw [Ybaf.stopKnobs] at hk
  cases hk
theorem Ybaf.gF : Ybaf.prog.globalNamed nF = some 0 := by kernel_rfl
theorem Ybaf.gR : Ybaf.prog.globalNamed nR = some 1 := by kernel_rfl
theorem Ybaf.gT : Ybaf.prog.globalNamed nT = some 2 := by kernel_rfl
theorem Ybaf.gFType : (Ybaf.prog.globals[0]?).map (·.type) = some 39 := by kernel_rfl
theorem Ybaf.gRType : (Ybaf.prog.globals[1]?).map (·.type) = some 39 := by kernel_rfl
theorem Ybaf.gTType : (Ybaf.prog.globals[2]?).map (·.type) = some 137 := by kernel_rfl
theorem Ybaf.cells95 : Ybaf.prog.cellsOf 95 = 1 := by kernel_rfl
theorem Ybaf.cells9 : Ybaf.prog.cellsOf 9 = 1 := by kernel_rfl
theorem Ybaf.cells5 : Ybaf.prog.cellsOf 5 = 1 := by kernel_rfl
theorem Ybaf.cells137 : Ybaf.prog.cellsOf 137 = 64 := by kernel_rfl
theorem Ybaf.row93 (u : TypeId) (h : Ybaf.prog.typeName? 3 u = some Ybaf.errName) : u = 93 := by
  refine typeName_ptr_named (P := Ybaf.prog) (nm := "errors.errorString") ?_ (by kernel_rfl) (by decide) u ?_
  · simp only [String.reduceAppend]; kernel_rfl
  · simp only [String.reduceAppend]; exact h

/-- The table, as the given row lists it. -/
def tabZ : List Int := [0, 1, 56, 2, 57, 49, 28, 3, 61, 58, 42, 50, 38, 29, 17, 4, 62, 47, 59, 36, 45, 43, 51, 22, 53, 39, 33, 30, 24, 18, 12, 5, 63, 55, 48, 27, 60, 41, 37, 16, 46, 35, 44, 21, 52, 32, 23, 11, 54, 26, 40, 15, 34, 20, 31, 10, 25, 14, 19, 9, 13, 8, 7, 6]

/-! ### One start that fits: the table lies in its block, the two variables hold their sentinels -/
def low (P : Program) : Nat := (World.holding P default ⟨#[], #[], []⟩).heap.size
def textIn {H : Type} : DataW H → List UInt8
  | .iface _ (.ptr (.agg [.lit (.string b)])) => b
  | _ => []
def sent (t : DataW Unit) : Obj := .cells #[.string ⟨(textIn t).toArray⟩] 95
def put (n : Nat) (k : Nat) (h : Array Obj) : Array Obj :=
  h.modify k fun
    | .cells _ t frozen => .cells #[.iface 93 (.pointer (some ⟨n, 0, none⟩))] t frozen
    | o => o
def putTab (k : Nat) (h : Array Obj) : Array Obj :=
  h.modify k fun
    | .cells _ t frozen => .cells (tabZ.map fun z => Value.int .u8 z).toArray t frozen
    | o => o
def laidWorld (P : Program) (os : Os) : World :=
  let w0 := World.holding P os ⟨#[sent Rows.laid_example_com_spoolwright_spoolwright_internal_spool_ErrFull, sent Rows.laid_example_com_spoolwright_spoolwright_internal_spool_ErrFreed], #[], []⟩
  { w0 with heap := putTab 2 (put (low P + 1) 1 (put (low P) 0 w0.heap)) }
theorem laid_met (os : Os) (args : Array Value) : laidMet Ybaf.prog Rows.lawS0864CTwoPartsRow.laid ((laidWorld Ybaf.prog os).forCall (fun _ _ => 0) ⟨#[], args, []⟩).memory :=
  laidMet_of_run' 8 (by kernel_rfl) (by kernel_rfl)

theorem vars_read2 {H : Type} (enc : TypeId × Value → H) {W : World} {x0 x1 : Value}
    (h0 : W.var? Ybaf.prog nF = some #[x0]) (h1 : W.var? Ybaf.prog nR = some #[x1])
    (i0 : IsIface x0) (i1 : IsIface x1) (sp : Nat → Bool) :
    DataW.TrodVars enc Ybaf.prog W sp [nF, nR] [tok enc x0, tok enc x1] [.cell 0 0, .cell 1 0] :=
  ⟨0, 39, #[x0], 1, [], [.cell 1 0], Ybaf.gF, Ybaf.gFType, h0, trod_held Ybaf.underlying39 i0 0,
    ⟨1, 39, #[x1], 1, [], [], Ybaf.gR, Ybaf.gRType, h1, trod_held Ybaf.underlying39 i1 0, rfl, rfl⟩, rfl⟩

theorem tab_of {W : World} (h : Lib.TabIs Ybaf.prog W nT .u8 tabZ) : sp.Tab W := by
  intro k hk
  match k, hk with
  | 0, _ => exact h.cell Ybaf.gT 0 (by decide)
  | 1, _ => exact h.cell Ybaf.gT 1 (by decide)
  | 2, _ => exact h.cell Ybaf.gT 3 (by decide)
  | 3, _ => exact h.cell Ybaf.gT 7 (by decide)
  | 4, _ => exact h.cell Ybaf.gT 15 (by decide)
  | 5, _ => exact h.cell Ybaf.gT 31 (by decide)
  | n + 6, h => exact absurd h (by omega)

theorem var?_below {P : Program} {W W' : World} {n : String} {g : Nat} {cs : Array Value} (hg : P.globalNamed n = some g) (hb : Below W.heap.size W W') (h : W.var? P n = some cs) : W'.var? P n = some cs := by
  unfold World.var? at h ⊢
  simp only [hg, Option.bind_some] at h ⊢
  have hlt : g < W.heap.size := by
    rcases Nat.lt_or_ge g W.heap.size with h' | h'
    · exact h'
    · simp [Array.getElem?_eq_none h'] at h
  rw [hb.block g hlt]
  exact h

/-- What the walk is told of a slice of integers that came in. -/
def IsRow (k : IntKind) (w : World) (a : Option Addr) (len cap : Nat) (zs : List Int) : Prop :=
  (a = none ∧ len = 0 ∧ cap = 0 ∧ zs = []) ∨
  ∃ x, a = some x ∧ len ≤ cap ∧ cap ≤ maxLen ∧ zs.length = cap ∧ (∀ i, i < zs.length → w.cell? (x.add i) = some (.int k (zs.getD i 0))) ∧ ∀ n ∈ zs, (Lit.int k n).wf = true
theorem arg_of {w : World} {a : Option Addr} {len cap : Nat} {zs : List Int} (h : IsRow .u8 w a len cap zs) : sp.Arg w.heap.size w a len (fun i => zs.getD i 0) := by
  rcases h with ⟨_, h, _, _⟩ | ⟨x, rfl, hl, hm, hz, hc, _⟩
  · exact .inl h
  · by_cases h0 : len = 0
    · exact .inl h0
    · obtain ⟨b, off, rfl, hc2⟩ := ints_at hc (by omega)
      refine .inr ⟨b, off, rfl, ?_, fun i hi => ?_⟩
      · exact World.block_lt_of_cell? _ _ (hc2 0 (by omega))
      · exact hc2 i (by omega)
theorem wf_of {k : IntKind} {w : World} {a : Option Addr} {len cap : Nat} {zs : List Int} (h : IsRow k w a len cap zs) : ∀ n ∈ zs, (Lit.int k n).wf = true := by
  rcases h with ⟨_, _, _, rfl⟩ | ⟨x, rfl, hl, hm, hz, hc, hw⟩
  · intro n hn; simp at hn
  · exact hw
theorem len_of {k : IntKind} {w : World} {a : Option Addr} {len cap : Nat} {zs : List Int} (h : IsRow k w a len cap zs) : len ≤ maxLen := by
  rcases h with ⟨_, h, _, _⟩ | ⟨x, rfl, hl, hm, hz, hc, _⟩
  · omega
  · omega
/-- The law, whatever came in. -/
theorem walk4 {F : Interp} {a : Option Addr} {len cap : Nat} {zs : List Int} {g n m : Int} {aF : Addr} {w : World} (hr : IsRow .u8 w a len cap zs) (hg0 : 0 ≤ g) (hg1 : g ≤ 255) (hn0 : 0 ≤ n) (hn1 : n ≤ 255) (hm0 : 0 ≤ m) (hm1 : m ≤ 255) (hlo : 3 ≤ w.heap.size) (hT : sp.Tab w) (hFa : F.answers w.tape) (hF : w.cell? ⟨0, 0, none⟩ = some (.iface 93 (.pointer (some aF)))) :
    Calls Ybaf.prog 4 #[.slice a len cap, .int .u8 g, .int .u8 n, .int .u8 m] w fun e w' => e = .returned (.bool true) ∧ Below w.heap.size w w' := by
  by_cases hl : len ≤ 1024
  · refine sp.law4_short hl (arg_of hr) (fun i => ?_) hg0 hg1 hn0 hn1 hm0 hm1 hlo hT hFa hF
    show 0 ≤ zs.getD i 0 ∧ zs.getD i 0 ≤ 255
    by_cases hi : i < zs.length
    · have hm : zs.getD i 0 ∈ zs := by
        rw [List.getD, List.getElem?_eq_getElem hi]; exact List.getElem_mem hi
      have := bounds_u8 (wf_of hr _ hm)
      omega
    · rw [List.getD, List.getElem?_eq_none (by omega)]; simp
  · exact sp.law4_long (by omega) (len_of hr)

set_option maxRecDepth 100000 in
theorem lifted (os : Os) (started : os.Started) (H : Type) (enc : TypeId × Value → H) :
    ReturnsInTold none {} Ybaf.checked os 4 .any Input.okWide ((OpenSpec.ofChange Rows.lawS0864CTwoPartsSpec).preRow enc Ybaf.prog Ybaf.f4 [] false Rows.lawS0864CTwoPartsRow.laid) (fun F => ((OpenSpec.ofChange Rows.lawS0864CTwoPartsSpec).at F).post enc Ybaf.prog Ybaf.f4 false true false false) (aloneAtReturn Ybaf.prog) nothingAlways := by
  refine returnsInTold_of_row (C := Ybaf.checked) (s := OpenSpec.ofChange Rows.lawS0864CTwoPartsSpec) (by kernel_rfl) Ybaf.own started (by kernel_rfl) Ybaf.func4
    (OpenSpec.witness_stopped_at (enc := enc) (C := Ybaf.checked) false (laidWorld Ybaf.prog os) #[.slice none 0 0, .int .u8 0, .int .u8 0, .int .u8 0] rfl (by kernel_rfl) (by kernel_rfl) (by kernel_rfl)
      (OpenSpec.preRow_of_B rfl 8 (by kernel_rfl) (by kernel_rfl) (laid_met os _))) ?_
  intro F W base args ds gs before _ hF hval0 hW _ _ _ hL0 _
  have hval : ∀ (j : Nat) t v, Ybaf.f4.params[j]? = some t → args[j]? = some v → Value.okWide Ybaf.prog W .any base t v := hval0
  have hL : laidMet Ybaf.prog Rows.lawS0864CTwoPartsRow.laid W := hL0
  have hW' := hW
  obtain ⟨p, q, hA0, hV0, rfl, hfz, hnd⟩ := hW
  have hA : DataW.TrodAll enc Ybaf.prog W 0 (fun _ => true) true Ybaf.f4.params.toList args.toList ds p := hA0
  have hV : DataW.TrodVars enc Ybaf.prog W (fun _ => true) [nF, nR] gs q := hV0
  rw [Ybaf.params4] at hA hval
  obtain ⟨v0, v1, v2, v3, d0, d1, d2, d3, p0, p1, p2, p3, rfl, rfl, rfl, h0, h1, h2, h3⟩ := trodAll_four hA
  obtain ⟨a0, len0, cap0, rfl⟩ := okWide_slice Ybaf.underlying46 (hval 0 46 v0 rfl rfl)
  have lt0 : ∀ x ∈ p0, x.block < W.heap.size := by obtain ⟨m, hm⟩ := h0; exact DataW.trod_lt m _ _ _ hm
  have k0 := h0
  obtain ⟨z0, w0⟩ : ∃ zs, IsRow .u8 W a0 len0 cap0 zs := by
    obtain ⟨fuel, hf⟩ := h0
    rcases open_ints Ybaf.underlying46 Ybaf.underlying5 Ybaf.cells5 hf with ⟨hcs, _⟩ | ⟨x, l, c, zs, hcs, _, hl, hm, hz, _, hcell, hwz⟩
    · simp [Value.cells] at hcs
      obtain ⟨rfl, rfl, rfl⟩ := hcs
      exact ⟨[], .inl ⟨rfl, rfl, rfl, rfl⟩⟩
    · simp [Value.cells] at hcs
      obtain ⟨rfl, rfl, rfl⟩ := hcs
      exact ⟨zs, .inr ⟨_, rfl, hl, hm, by simpa using hz, hcell, hwz⟩⟩
  obtain ⟨n0, rfl, rfl, rfl, wn0⟩ := open_int Ybaf.underlying5 (hval 1 5 v1 rfl rfl) h1
  obtain ⟨n1, rfl, rfl, rfl, wn1⟩ := open_int Ybaf.underlying5 (hval 2 5 v2 rfl rfl) h2
  obtain ⟨n2, rfl, rfl, rfl, wn2⟩ := open_int Ybaf.underlying5 (hval 3 5 v3 rfl rfl) h3
  -- the list reads: the table, full, freed
  have hT : Lib.TabIs Ybaf.prog W nT .u8 tabZ := Lib.tabIs_of_head Ybaf.gT Ybaf.gTType Ybaf.underlying137 Ybaf.underlying5 Ybaf.cells5 Ybaf.cells137 hL
  obtain ⟨aF, aR, _, _, cF, cR, tF, tR, hvF, hvR, _, _, _, _, _, _, nFR, hbF, hbR⟩ := laid_sentinels2 hL.tail Ybaf.gF Ybaf.gFType Ybaf.gR Ybaf.gRType Ybaf.underlying39 Ybaf.row93 Ybaf.underlying93 Ybaf.underlying95 rfl rfl Ybaf.underlying9 Ybaf.cells95 Ybaf.cells9
  obtain ⟨rfl, rfl⟩ := hV.unique (vars_read2 enc hvF hvR trivial trivial _)
  clear hA0 hV0 hval0
  have hg0 : W.cell? ⟨0, 0, none⟩ = some (.iface 93 (.pointer (some aF))) := by simpa using World.var?_cell Ybaf.gF hvF 0
  have hlo : 3 ≤ W.heap.size := World.block_lt_of_cell? _ _ (tab_of hT 0 (by omega))
  have fin : ∀ (e : Ending) (W' : World), (e = .returned (.bool true) ∧ Below W.heap.size W W') → ∃ v, e = .returned v ∧ ((OpenSpec.ofChange Rows.lawS0864CTwoPartsSpec).at F.told).post enc Ybaf.checked.prog Ybaf.f4 false true false false W #[.slice a0 len0 cap0, .int .u8 n0, .int .u8 n1, .int .u8 n2] v W' := by
    rintro e W' ⟨rfl, bel⟩
    refine ⟨_, rfl, _, _, _, [], p0 ++ ([] ++ ([] ++ [])), [.cell 0 0, .cell 1 0], hW', ?_, ?_, ?_, bel.frame _, fun h => by cases h⟩
    · exact trodAll_mk1 (shut_bool Ybaf.underlying4 true)
    · exact trodAll_mk4 (p' := []) (p'' := []) (p3 := []) (Below.trod Ybaf.laidOut (by kernel_rfl) (of_decide_eq_true (by kernel_rfl)) k0 bel lt0) (shut_int Ybaf.underlying5 wn0) (shut_int Ybaf.underlying5 wn1) (shut_int Ybaf.underlying5 wn2)
    · exact vars_read2 enc (var?_below Ybaf.gF bel hvF) (var?_below Ybaf.gR bel hvR) trivial trivial _
  obtain ⟨b0, b1⟩ := bounds_u8 wn0
  obtain ⟨b2, b3⟩ := bounds_u8 wn1
  obtain ⟨b4, b5⟩ := bounds_u8 wn2
  exact (walk4 w0 b0 b1 b2 b3 b4 b5 hlo (tab_of hT) hF hg0).mono fin

theorem card_holds : Rows.LawS0864CTwoPartsToldSaid :=
  Claim7.holds_of_told_tied_any_at .later 4 Ybaf.f4 "fmt.errorf" [] [] _ _ _ _ _ (by kernel_rfl) rfl rfl rfl Ybaf.laidOut (by kernel_rfl) rfl ⟨rfl, rfl, rfl, rfl, rfl, rfl, rfl⟩ rfl rfl (by kernel_rfl) (by kernel_rfl) Ybaf.func4 (by kernel_rfl)
    (of_decide_eq_true (by kernel_rfl)) (of_decide_eq_true (by kernel_rfl)) Ybaf.stops.symm rfl Ybaf.stopKnobs.symm (by kernel_rfl)
    (by kernel_rfl) (by kernel_rfl) (by kernel_rfl) (by kernel_rfl) (by kernel_rfl) (by kernel_rfl) (by kernel_rfl) (by kernel_rfl) (by kernel_rfl) rfl (by kernel_rfl) rfl rfl
    rfl rfl
    rfl (by kernel_rfl) (by kernel_rfl) (by kernel_rfl) (by decide) (by kernel_rfl) lawS0864CTwoParts_row_tie
    (OpenClaim.moreEntering_of (by kernel_rfl) (by kernel_rfl) (by kernel_rfl) (by kernel_rfl) (by kernel_rfl) (by kernel_rfl) (by kernel_rfl) (by kernel_rfl) (by kernel_rfl) (by kernel_rfl))
    ⟨_, WideRow.started_initial, Ybaf.quiet _⟩
    (fun os started _ H enc _ => lifted os started H enc)
end Go.Proofs.YbulkqwgFmt
