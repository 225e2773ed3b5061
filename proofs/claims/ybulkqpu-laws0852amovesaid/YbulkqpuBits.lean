import Derived.Test.YbulkqpuPlain
import Derived.Deep.RegionHeld3
import Derived.BigRegion
namespace Go.Proofs.Ybulkqpu.mv
open Go.RowKit
set_option linter.unusedVariables false
set_option maxRecDepth 1000000
set_option linter.unusedSimpArgs false

set_option maxHeartbeats 4000000 in
/-- 'zzs0852abits': the bits of m, rising. -/
theorem bits9 {m nb : Nat} {w : World} (hm : m < 256) (hnb : nb ≤ 8) :
    Calls Yba.prog 9 #[.int .u8 (m : Int), .int .i64 (nb : Int)] w fun e w' => ∃ v, e = .returned v ∧ w'.ownsRow w.heap.size 3 1 v (pick nb fun b => m.testBit b).length (encs (pick nb fun b => m.testBit b)) ∧ Below w.heap.size w w' := by
  obtain ⟨i0, hi0, hz0, hz1, hz2⟩ := info_parts info3
  go_enter Yba.func9, Yba.ntmps9
  go_wp2
  go_loopw [5, 6] (fun v i wr => ∃ k : Nat, k ≤ nb ∧ i = .int .i64 k ∧ Hid (wr.ownsRow w.heap.size 3 1 v (pick k fun b => m.testBit b).length (encs (pick k fun b => m.testBit b))) ∧ Hid (Below w.heap.size w wr)) (fun _ i _ => nb - (intOf i).toNat)
  case atStart => exact ⟨0, Nat.zero_le _, rfl, hid ⟨rfl, .inl ⟨rfl, rfl⟩⟩, hid (Below.refl _ _)⟩
  case round =>
    obtain ⟨k, hk, rfl, H, HB⟩ := hrel
    by_cases hlt : k < nb
    · by_cases hbit : m.testBit k = true
      · have tt : (bits .and .u8 ((m : Int) / 2 ^ k) 1 == 1) = true := by rw [bit_one _ _ hm, hbit]
        have HN : Hid ((pick (k + 1) fun b => m.testBit b) = (pick k fun b => m.testBit b) ++ [k]) := pick_yes hbit
        have hlen := pick_len k fun b => m.testBit b
        have hsz := HB.out.size
        clear hbit
        go_wp2_with (at_builtin; refine wpList_append_lies _ rfl _ _ _ rfl w.heap.size 3 i0 _ 1 8 Yba.underlying32 hi0 hz0 hz1 hz2 rfl (by omega) u5 (pick k fun b => m.testBit b).length (encs (pick k fun b => m.testBit b)) rfl (H.out.alloc _) ⟨wr.heap.size, 0, none⟩ 1 1 [.int .i64 (k : Int)] rfl rfl (World.news_of_block (cs := #[.int .i64 (k : Int)]) (t := 3) (fr := (0, 0)) (heap_alloc_new wr _)) (by simp [Value.oneCell']) (by omega) (by unfold maxLen; omega) (by omega) (by simp; omega) (wr.heap.size + 1) (by simp) ?_; intro gg cap w1 hown1 hgrow hat hlt1)
        go_roundw
        case rel =>
          refine ⟨k + 1, by omega, by go_num, hid ?_, hid ?_⟩
          · rw [HN.out, ← encs_snoc, List.length_append, List.length_singleton]; exact hown1
          · exact (HB.out.alloc hsz _).grown hgrow (by simp; omega) fun j hj => (owns_base H.out hj).1
        case measure => simp [intOf]; omega
      · have hbit' : m.testBit k = false := by simpa using hbit
        have tt : (bits .and .u8 ((m : Int) / 2 ^ k) 1 == 1) = false := by rw [bit_one _ _ hm, hbit']
        have HN : Hid ((pick (k + 1) fun b => m.testBit b) = pick k fun b => m.testBit b) := pick_no hbit'
        clear hbit hbit'
        go_wp2
        go_roundw
        case rel => exact ⟨k + 1, by omega, by go_num, hid (by rw [HN.out]; exact H.out), HB⟩
        case measure => simp [intOf]; omega
    · obtain rfl : k = nb := by omega
      go_wp2
      go_ret
      exact ⟨_, rfl, H.out, HB.out⟩
end Go.Proofs.Ybulkqpu.mv
