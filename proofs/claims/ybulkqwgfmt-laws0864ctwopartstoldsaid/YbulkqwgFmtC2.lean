import Derived.Test.YbulkqwgFmtC1
namespace Go.Proofs.YbulkqwgFmt.sp
open Go.RowKit
set_option linter.unusedVariables false
set_option maxRecDepth 100000

/-- The table of package math/bits, where it is read. -/
def Tab (w : World) : Prop := ∀ k : Nat, k ≤ 5 → w.cell? ⟨2, 2 ^ k - 1, none⟩ = some (.int .u8 (k : Int))

set_option maxHeartbeats 2000000 in
theorem tz_walk {x : Int} {i k : Nat} {w : World} (hx : (x == 0) = false) (hi : i < 64) (hk : k ≤ 64)
    (hkey : IntKind.u64.wrap (bits .and .u64 x (IntKind.u64.wrap (-x)) * 285870213051353865) / 288230376151711744 = (i : Int)) (hc : w.cell? ⟨2, i, none⟩ = some (.int .u8 (k : Int))) :
    Calls Ybaf.prog 45 #[.int .u64 x] w fun e w' => e = .returned (.int .i64 (k : Int)) ∧ w' = w := by
  go_enter Ybaf.func45, Ybaf.ntmps45
  go_wp2
  go_ret
  exact ⟨rfl, rfl⟩
theorem tz45 {k : Nat} {w : World} (hk : k ≤ 5) (hT : Tab w) : Calls Ybaf.prog 45 #[.int .u64 (18446744073709551616 - 2 ^ k)] w fun e w' => e = .returned (.int .i64 (k : Int)) ∧ w' = w := by
  have h := hT k hk
  refine tz_walk (i := 2 ^ k - 1) (k := k) ?_ ?_ (by omega) ?_ h
  all_goals
    clear h hT
    match k, hk with
    | 0, _ | 1, _ | 2, _ | 3, _ | 4, _ | 5, _ => decide
    | n + 6, h => exact absurd h (by omega)
theorem not_used {k : Nat} (hk : k ≤ 5) : ((2 ^ k - 1 : Int) == 18446744073709551615) = false := by
  match k, hk with
  | 0, _ | 1, _ | 2, _ | 3, _ | 4, _ | 5, _ => decide
  | n + 6, h => exact absurd h (by omega)
theorem or_used {k : Nat} (hk : k ≤ 4) : bits .or .u64 (2 ^ k - 1) (IntKind.u64.wrap (2 ^ k)) = (2 ^ (k + 1) - 1 : Int) := by
  match k, hk with
  | 0, _ | 1, _ | 2, _ | 3, _ | 4, _ => decide
  | n + 5, h => exact absurd h (by omega)

theorem xor_used {k : Nat} (hk : k ≤ 5) : bits .xor .u64 IntKind.u64.max (2 ^ k - 1) = (18446744073709551616 - 2 ^ k : Int) := by
  match k, hk with
  | 0, _ | 1, _ | 2, _ | 3, _ | 4, _ | 5, _ => decide
  | n + 6, h => exact absurd h (by omega)

/-- The cells of a file: its index, its partition, its groups, the blocks taken. -/
def fileCells (i P n U k : Nat) (f : Value) : List Value :=
  [.string ByteArray.empty, .string ByteArray.empty, .bool false, .string ByteArray.empty, .int .i64 (i : Int), .pointer (some ⟨P, 0, none⟩), f, .int .i64 (n : Int), .slice (some ⟨U, 0, none⟩) 1 1, .int .i64 ((n : Int) - (k : Int)), .int .i64 (k : Int), .int .u32 0, .int .i32 0, .int .u32 0]
def FileAt (w : World) (F U i P n k : Nat) : Prop := At w F (fileCells i P n U k (.pointer none)) 68 ∧ At w U [.int .u64 (2 ^ k - 1)] 36

set_option maxHeartbeats 4000000 in
/-- '(*file).take': a group is free. -/
theorem take37 {F U i P n k : Nat} {w : World} (hne : F ≠ U) (hk : k < n) (hn : n ≤ 5) (hT : Tab w) (h : FileAt w F U i P n k) :
    Calls Ybaf.prog 37 #[.pointer (some ⟨F, 0, none⟩)] w fun e w' => e = .returned (.tuple #[.int .i64 (k : Int), .bool true]) ∧ FileAt w' F U i P n (k + 1) ∧ Chg (fun g => g = F ∨ g = U) w w' := by
  obtain ⟨hF, hU⟩ := h
  have c8 := hF.cell (k := 8) rfl
  have c7 := hF.cell (k := 7) rfl
  have c10 := hF.cell (k := 10) rfl
  have u0 := hU.cell (k := 0) rfl
  have T1 := hid (tz45 (w := w) (k := k) (by omega) hT)
  have H1 := hid (hold46 (k := k) (by omega) (by omega) (by omega) hne hF hU)
  clear hF hU hT
  have d1 : (k : Int).tdiv 64 = 0 := by rw [Int.tdiv_eq_ediv_of_nonneg (by omega)]; omega
  have n1 := not_used (k := k) (by omega)
  go_enter Ybaf.func37, Ybaf.ntmps37
  go_wp2
  go_loopw [4] (fun i wr => i = .int .i64 0 ∧ wr = w) (fun _ _ => 0)
  case atStart => exact ⟨rfl, rfl⟩
  case round =>
    obtain ⟨rfl, rfl⟩ := hrel
    go_wp2_with fail
    rw [xor_used (by omega)]
    refine T1.out.mono ?_
    rintro e w' ⟨rfl, rfl⟩
    have g1 : ¬ ((n : Int) ≤ (k : Int)) := by omega
    go_wp2_with fail
    refine H1.out.mono ?_
    rintro e w' ⟨rfl, hF', hU', hc⟩
    have c10' := hF'.cell (k := 10) rfl
    have z10' := hF'.frozen 10
    have HF := hid hF'
    have HU := hid hU'
    have HC := hid hc
    clear hF' hU' hc
    go_wp2
    go_ret2
    refine ⟨rfl, ⟨?_, ?_⟩, HC.out.setCell (.inl (.inl rfl)) 10 _⟩
    · exact (HF.out.set 10 (.int .i64 ((k : Int) + 1))).eq (by simp [fileCells]; omega)
    · rw [← or_used (by omega)]
      exact HU.out.set_ne (Ne.symm hne) 10 _
set_option maxHeartbeats 4000000 in
/-- '(*file).take': no group is free. -/
theorem take37_none {F U i P n : Nat} {w : World} (hn : n ≤ 5) (hT : Tab w) (h : FileAt w F U i P n n) :
    Calls Ybaf.prog 37 #[.pointer (some ⟨F, 0, none⟩)] w fun e w' => e = .returned (.tuple #[.int .i64 0, .bool false]) ∧ w' = w := by
  obtain ⟨hF, hU⟩ := h
  have c8 := hF.cell (k := 8) rfl
  have c7 := hF.cell (k := 7) rfl
  have c10 := hF.cell (k := 10) rfl
  have u0 := hU.cell (k := 0) rfl
  have T1 := hid (tz45 (w := w) (k := n) (by omega) hT)
  clear hF hU hT
  have d1 : (n : Int).tdiv 64 = 0 := by rw [Int.tdiv_eq_ediv_of_nonneg (by omega)]; omega
  have n1 := not_used (k := n) (by omega)
  go_enter Ybaf.func37, Ybaf.ntmps37
  go_wp2
  go_loopw [4] (fun i wr => i = .int .i64 0 ∧ wr = w) (fun _ _ => 0)
  case atStart => exact ⟨rfl, rfl⟩
  case round =>
    obtain ⟨rfl, rfl⟩ := hrel
    go_wp2_with fail
    rw [xor_used (by omega)]
    refine T1.out.mono ?_
    rintro e w' ⟨rfl, rfl⟩
    go_wp2
    go_ret2
    exact ⟨rfl, rfl⟩
end Go.Proofs.YbulkqwgFmt.sp
