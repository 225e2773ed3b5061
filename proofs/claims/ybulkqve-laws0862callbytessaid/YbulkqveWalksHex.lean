import Derived.Test.YbulkqveRows
import Derived.WalkKit
import Derived.ProofKit
import Derived.OpenShut
import Derived.ShutString
/-! The contracts that both laws of this seat share: 'digitValue' and the table 'zzs0862cexpect' hand back the same pair. -/
namespace Go.Proofs.Ybulkqve.hex
open Go.ChangeShapes Go.WideShapes Go.ChangeAt Go.RowKit
set_option linter.unusedVariables false

/-- The plain function: the value of a hexadecimal digit, 16 where the byte is none. -/
def hexN (c : Int) : Int :=
  if 48 ≤ c ∧ c ≤ 57 then c - 48 else if 97 ≤ c ∧ c ≤ 102 then c - 87 else if 65 ≤ c ∧ c ≤ 70 then c - 55 else 16
def hexV (c : Int) : Int := if hexN c < 16 then hexN c else 0
def hexOk (c : Int) : Bool := decide (hexN c < 16)

theorem hexV_bd (c : Int) : 0 ≤ hexV c ∧ hexV c ≤ 15 := by
  unfold hexV hexN; split <;> (try split) <;> (try split) <;> (try split) <;> omega

theorem dig_yes {c : Int} (h1 : 48 ≤ c) (h2 : c ≤ 57) : hexV c = c - 48 ∧ hexOk c = true := by
  have h : hexN c = c - 48 := by unfold hexN; rw [if_pos ⟨h1, h2⟩]
  unfold hexV hexOk; rw [h]; exact ⟨if_pos (by omega), decide_eq_true (by omega)⟩
theorem low_yes {c : Int} (h1 : 97 ≤ c) (h2 : c ≤ 102) : hexV c = c - 87 ∧ hexOk c = true := by
  have h : hexN c = c - 87 := by unfold hexN; rw [if_neg (by omega), if_pos ⟨h1, h2⟩]
  unfold hexV hexOk; rw [h]; exact ⟨if_pos (by omega), decide_eq_true (by omega)⟩
theorem up_yes {c : Int} (h1 : 65 ≤ c) (h2 : c ≤ 70) : hexV c = c - 55 ∧ hexOk c = true := by
  have h : hexN c = c - 55 := by unfold hexN; rw [if_neg (by omega), if_neg (by omega), if_pos ⟨h1, h2⟩]
  unfold hexV hexOk; rw [h]; exact ⟨if_pos (by omega), decide_eq_true (by omega)⟩
theorem none_of {c : Int} (h : 16 ≤ hexN c) : hexV c = 0 ∧ hexOk c = false := by
  unfold hexV hexOk; exact ⟨if_neg (by omega), decide_eq_false (by omega)⟩
theorem some_of {c k : Int} (h : hexN c = k) (hk : k < 16) : hexV c = k ∧ hexOk c = true := by
  unfold hexV hexOk; rw [h]; exact ⟨if_pos hk, decide_eq_true hk⟩

theorem ret_pair {v v' : Int} {b b' : Bool} (h1 : v = v') (h2 : b = b') : Ending.returned (.tuple #[.int .i64 v, .bool b]) = .returned (.tuple #[.int .i64 v', .bool b']) := by rw [h1, h2]

theorem none_of_bounds {c : Int} (h1 : ¬ (48 ≤ c ∧ c ≤ 57)) (h2 : ¬ (97 ≤ c ∧ c ≤ 102)) (h3 : ¬ (65 ≤ c ∧ c ≤ 70)) : hexV c = 0 ∧ hexOk c = false :=
  none_of (by unfold hexN; rw [if_neg h1, if_neg h2, if_neg h3]; exact Int.le_refl _)

set_option maxHeartbeats 400000 in
theorem digit_any (c : Int) (w0 : 0 ≤ c ∧ c ≤ 255) (w : World) :
    Calls Yba.prog 5 #[.int .u8 c] w fun e w' => e = .returned (.tuple #[.int .i64 (hexV c), .bool (hexOk c)]) ∧ w' = w := by
  obtain ⟨l0, l1⟩ := w0
  by_cases a : 48 ≤ c ∧ c ≤ 57
  · have H : Hid (hexV c = c - 48 ∧ hexOk c = true) := dig_yes a.1 a.2
    obtain ⟨a1, a2⟩ := a
    go_enter Yba.func5, Yba.ntmps5
    go_wp2
    go_ret2
    exact ⟨ret_pair H.out.1.symm H.out.2.symm, rfl⟩
  · by_cases b : 97 ≤ c ∧ c ≤ 102
    · have H : Hid (hexV c = c - 87 ∧ hexOk c = true) := low_yes b.1 b.2
      obtain ⟨a1, a2⟩ := b
      have a3 : ¬ c ≤ 57 := by omega
      have a4 : 48 ≤ c := by omega
      clear a
      go_enter Yba.func5, Yba.ntmps5
      go_wp2
      go_ret2
      exact ⟨ret_pair (by rw [H.out.1]; omega) H.out.2.symm, rfl⟩
    · by_cases d : 65 ≤ c ∧ c ≤ 70
      · have H : Hid (hexV c = c - 55 ∧ hexOk c = true) := up_yes d.1 d.2
        obtain ⟨a1, a2⟩ := d
        have a3 : ¬ c ≤ 57 := by omega
        have a4 : 48 ≤ c := by omega
        have a5 : ¬ 97 ≤ c := by omega
        clear a b
        go_enter Yba.func5, Yba.ntmps5
        go_wp2
        go_ret2
        exact ⟨ret_pair (by rw [H.out.1]; omega) H.out.2.symm, rfl⟩
      · have H : Hid (hexV c = 0 ∧ hexOk c = false) := none_of_bounds a b d
        have hr : c < 48 ∨ (57 < c ∧ c < 65) ∨ (70 < c ∧ c < 97) ∨ 102 < c := by omega
        clear a b d
        rcases hr with hr | ⟨hr, hs⟩ | ⟨hr, hs⟩ | hr
        all_goals
          go_enter Yba.func5, Yba.ntmps5
          go_wp2
          go_ret2
          exact ⟨ret_pair H.out.1.symm H.out.2.symm, rfl⟩

/-! The two strings of the table, at a place. -/
theorem lo_at : ∀ (k : Nat) (h : k < (ByteArray.mk #[48, 49, 50, 51, 52, 53, 54, 55, 56, 57, 97, 98, 99, 100, 101, 102]).size),
    (((ByteArray.mk #[48, 49, 50, 51, 52, 53, 54, 55, 56, 57, 97, 98, 99, 100, 101, 102])[k]'h).toNat : Int) = if k < 10 then 48 + (k : Int) else 87 + (k : Int) := by
  intro k h
  have h16 : k < 16 := h
  match k, h16 with
  | 0, _ | 1, _ | 2, _ | 3, _ | 4, _ | 5, _ | 6, _ | 7, _ | 8, _ | 9, _ | 10, _ | 11, _ | 12, _ | 13, _ | 14, _ | 15, _ => rfl
  | n + 16, h => exact absurd h (by omega)
theorem up_at : ∀ (k : Nat) (h : k < (ByteArray.mk #[48, 49, 50, 51, 52, 53, 54, 55, 56, 57, 65, 66, 67, 68, 69, 70]).size),
    (((ByteArray.mk #[48, 49, 50, 51, 52, 53, 54, 55, 56, 57, 65, 66, 67, 68, 69, 70])[k]'h).toNat : Int) = if k < 10 then 48 + (k : Int) else 55 + (k : Int) := by
  intro k h
  have h16 : k < 16 := h
  match k, h16 with
  | 0, _ | 1, _ | 2, _ | 3, _ | 4, _ | 5, _ | 6, _ | 7, _ | 8, _ | 9, _ | 10, _ | 11, _ | 12, _ | 13, _ | 14, _ | 15, _ => rfl
  | n + 16, h => exact absurd h (by omega)

theorem hit_lo {c : Int} {k : Nat} (hk : k < 16) (h : (if k < 10 then 48 + (k : Int) else 87 + (k : Int)) = c) : hexV c = k ∧ hexOk c = true := by
  refine some_of ?_ (by omega)
  unfold hexN
  by_cases hd : k < 10
  · rw [if_pos hd] at h; rw [if_pos (by omega)]; omega
  · rw [if_neg hd] at h; rw [if_neg (by omega), if_pos (by omega)]; omega
theorem hit_up {c : Int} {k : Nat} (hk : k < 16) (h : (if k < 10 then 48 + (k : Int) else 55 + (k : Int)) = c) : hexV c = k ∧ hexOk c = true := by
  refine some_of ?_ (by omega)
  unfold hexN
  by_cases hd : k < 10
  · rw [if_pos hd] at h; rw [if_pos (by omega)]; omega
  · rw [if_neg hd] at h; rw [if_neg (by omega), if_neg (by omega), if_pos (by omega)]; omega
theorem miss {c : Int} {k : Nat} (hk : k < 16) (h : (k : Int) ≤ hexN c)
    (h1 : ¬ (if k < 10 then 48 + (k : Int) else 87 + (k : Int)) = c) (h2 : ¬ (if k < 10 then 48 + (k : Int) else 55 + (k : Int)) = c) : ((k + 1 : Nat) : Int) ≤ hexN c := by
  unfold hexN at h ⊢
  by_cases hd : k < 10
  · rw [if_pos hd] at h1 h2
    by_cases a : 48 ≤ c ∧ c ≤ 57
    · rw [if_pos a] at h ⊢; omega
    · rw [if_neg a] at h ⊢
      by_cases b : 97 ≤ c ∧ c ≤ 102
      · rw [if_pos b] at h ⊢; omega
      · rw [if_neg b] at h ⊢
        by_cases d : 65 ≤ c ∧ c ≤ 70
        · rw [if_pos d] at h ⊢; omega
        · rw [if_neg d]; omega
  · rw [if_neg hd] at h1 h2
    by_cases a : 48 ≤ c ∧ c ≤ 57
    · rw [if_pos a] at h ⊢; omega
    · rw [if_neg a] at h ⊢
      by_cases b : 97 ≤ c ∧ c ≤ 102
      · rw [if_pos b] at h ⊢; omega
      · rw [if_neg b] at h ⊢
        by_cases d : 65 ≤ c ∧ c ≤ 70
        · rw [if_pos d] at h ⊢; omega
        · rw [if_neg d]; omega
theorem hexN_0 (c : Int) : ((0 : Nat) : Int) ≤ hexN c := by unfold hexN; split <;> (try split) <;> (try split) <;> omega

set_option maxHeartbeats 1000000 in
theorem expect_any (c : Int) (w0 : 0 ≤ c ∧ c ≤ 255) (w : World) :
    Calls Yba.prog 6 #[.int .u8 c] w fun e w' => e = .returned (.tuple #[.int .i64 (hexV c), .bool (hexOk c)]) ∧ w' = w := by
  obtain ⟨l0, l1⟩ := w0
  go_enter Yba.func6, Yba.ntmps6
  go_wp2
  go_loop [4] (fun i => ∃ k : Nat, k ≤ 16 ∧ i = .int .i64 k ∧ Hid ((k : Int) ≤ hexN c)) (fun i => 16 - (intOf i).toNat)
  case atStart => exact ⟨0, Nat.zero_le _, rfl, hexN_0 c⟩
  case round =>
    obtain ⟨k, hk, rfl, H⟩ := hrel
    by_cases hlt : k < 16
    · go_wp2
      · rename_i h _
        rw [lo_at] at h
        have H2 := hit_lo hlt h
        go_ret2
        exact ⟨ret_pair H2.1.symm H2.2.symm, rfl⟩
      · rename_i h0 h _
        have H2 : hexV c = k ∧ hexOk c = true := by
          rcases h with h | h
          · exact absurd (eq_of_beq h) h0
          · have h := eq_of_beq h; rw [up_at] at h; exact hit_up hlt h
        go_ret2
        exact ⟨ret_pair H2.1.symm H2.2.symm, rfl⟩
      · rename_i h0 h
        have h1 : ((k + 1 : Nat) : Int) ≤ hexN c := by
          refine miss hlt H.out (fun e => ?_) (fun e => ?_)
          · rw [← lo_at k hlt] at e; exact h0 e
          · rw [← up_at k hlt] at e; have := h.2; simp [e] at this
        go_round
        case rel => exact ⟨k + 1, by omega, by go_num, h1⟩
        case measure => simp [intOf]; omega
    · have H2 : Hid (hexV c = 0 ∧ hexOk c = false) := none_of (by have := H.out; omega)
      go_wp2
      go_ret2
      exact ⟨ret_pair H2.out.1.symm H2.out.2.symm, rfl⟩

theorem isHex_any (c : Int) (w0 : 0 ≤ c ∧ c ≤ 255) (w : World) :
    Calls Yba.prog 7 #[.int .u8 c] w fun e w' => e = .returned (.bool (hexOk c)) ∧ w' = w := by
  go_enter Yba.func7, Yba.ntmps7
  go_wp2_with (go_at_call 5; refine (digit_any _ w0 _).mono ?_; rintro e w' ⟨rfl, rfl⟩)
  go_ret
  exact ⟨rfl, rfl⟩
end Go.Proofs.Ybulkqve.hex
