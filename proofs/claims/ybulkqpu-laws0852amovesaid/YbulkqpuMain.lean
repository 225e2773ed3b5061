import Derived.Test.YbulkqpuP1
import Derived.Test.YbulkqpuP11
import Derived.Test.YbulkqpuP4
import Derived.Test.YbulkqpuP14
import Derived.Test.YbulkqpuP15
import Derived.Test.YbulkqpuP20
import Derived.Test.YbulkqpuP27
import Derived.Test.YbulkqpuMake
import Derived.Test.YbulkqpuLaw
/-! The pieces of 'LawS0852AMove' laid end to end. -/
namespace Go.Proofs.Ybulkqpu.mv
open Go.RowKit
set_option linter.unusedVariables false
set_option maxRecDepth 1000000
set_option linter.unusedSimpArgs false

theorem full_val {nb : Nat} (h2 : 2 ≤ nb) (h8 : nb ≤ 8) : ((2 : Int) ^ nb - 1) % 256 = ((2 ^ nb - 1 : Nat) : Int) := by
  match nb, h2, h8 with
  | 2, _, _ | 3, _, _ | 4, _, _ | 5, _, _ | 6, _, _ | 7, _, _ | 8, _, _ => rfl
  | 0, h, _ => exact absurd h (by omega)
  | 1, h, _ => exact absurd h (by omega)
  | n + 9, _, h => exact absurd h (by omega)
theorem owns_congr {w : World} {base n : Nat} {e : TypeId} {v : Value} {f g : Nat → Value} (h : w.ownsRow base e 1 v n ((List.range n).map f)) (hc : ∀ i, i < n → f i = g i) : w.ownsRow base e 1 v n ((List.range n).map g) := rm_congr hc ▸ h
theorem mod_nat {a : Int} {n : Nat} (hn : 1 ≤ n) : ∃ q : Nat, a % (n : Int) = (q : Int) ∧ q < n := by
  have h1 : 0 ≤ a % (n : Int) := Int.emod_nonneg _ (by omega)
  have h2 : a % (n : Int) < (n : Int) := Int.emod_lt_of_pos _ (by omega)
  exact ⟨(a % (n : Int)).toNat, by omega, by omega⟩

set_option maxHeartbeats 8000000 in
theorem main {a0 a4 a5 a6 : Int} {a1 a2 a3 : Option Addr} {len1 cap1 len2 cap2 len3 cap3 : Nat} {mk : Nat → Nat} {z2 z3 : Nat → Int} {w : World}
    (h00 : 0 ≤ a0) (h01 : a0 ≤ 255) (h40 : 0 ≤ a4) (h41 : a4 ≤ 255) (h50 : 0 ≤ a5) (h51 : a5 ≤ 255) (h60 : 0 ≤ a6) (h61 : a6 ≤ 255)
    (hlen : len1 ≤ 1024) (hmk : ∀ i, mk i < 256) (A1 : Arg .u8 w.heap.size w a1 len1 fun i => (mk i : Int)) (A2 : Arg .i64 w.heap.size w a2 len2 z2) (A3 : Arg .i64 w.heap.size w a3 len3 z3) :
    Calls Yba.prog 3 #[.int .u8 a0, .slice a1 len1 cap1, .slice a2 len2 cap2, .slice a3 len3 cap3, .int .u8 a4, .int .u8 a5, .int .u8 a6] w fun e w' => e = .returned (.bool true) ∧ Below w.heap.size w w' := by
  obtain ⟨base, hbase⟩ : ∃ b, b = w.heap.size := ⟨_, rfl⟩
  rw [← hbase] at A1 A2 A3 ⊢
  obtain ⟨nb, hnb⟩ : ∃ nb : Nat, 2 + a0 % 7 = (nb : Int) := ⟨(2 + a0 % 7).toNat, by omega⟩
  have hnb2 : 2 ≤ nb := by omega
  have hnb8 : nb ≤ 8 := by omega
  obtain ⟨np, hnp0⟩ : ∃ np : Nat, np = if len1 = 0 then 1 else len1 := ⟨_, rfl⟩
  have hnp1 : 1 ≤ np := by rw [hnp0]; split <;> omega
  have hnp : np ≤ 1024 := by rw [hnp0]; split <;> omega
  have hlnp : len1 ≤ np := by rw [hnp0]; split <;> omega
  have hz1 : len1 = 0 → ((np : Nat) : Int) = 1 := fun h => by rw [hnp0, if_pos h]; rfl
  have hz2 : len1 ≠ 0 → ((np : Nat) : Int) = (len1 : Int) := fun h => by rw [hnp0, if_neg h]
  clear hnp0
  obtain ⟨p, hpm, hp⟩ := mod_nat (a := a4) hnp1
  have hfv := full_val hnb2 hnb8
  have hf256 := full_lt hnb8
  have A1' := hid A1
  have A2' := hid A2
  have A3' := hid A3
  clear A1 A2 A3
  refine calls_of_wp Yba.func3 rfl ?_
  simp only [Yba.ntmps3, List.size_toArray, List.length_cons, List.length_nil, Nat.reduceAdd, Nat.reduceSub, Array.replicate_succ, Array.replicate_zero, List.push_toArray, List.append_toArray, List.nil_append, List.cons_append]
  refine glue (p0 (hid ?_))
  intro  w0 e
  subst e
  refine glue (p1 hlen (hid ?_))
  intro _ _ _ w1 e
  subst e
  refine glue (p2 h00 h01 hnb (hid ?_))
  intro _ _ _ _ w2 e
  subst e
  refine glue (p3 hnb2 hnb8 hfv (hid ?_))
  intro _ _ _ _ w3 e
  subst e
  refine glue (p4 (hid ?_))
  intro _ _ w4 e
  subst e
  refine glue (p5 hz1 hz2 (hid ?_))
  intro _ _ w5 e
  subst e
  refine glue (p6 hnp1 hnp (hid ?_))
  intro _ _ w6 e6
  have a6 := at_new w5 ((List.range np).map fun _ => Value.int .u8 0) 5
  rw [← e6] at a6
  have hbE : base ≤ w5.heap.size := Nat.le_of_eq hbase
  have b6 : Below base w5 w6 := by rw [e6]; exact (Below.refl base w5).alloc hbE _
  clear e6
  generalize w5.heap.size = E at a6 hbE ⊢
  refine glue (p7 hnp hlnp hbE hf256 hmk (A1'.out.below b6) a6 (hid ?_))
  intro _ _ _ _ _ _ _ _ _ _ _ _ _ _ _ _ _ _ _ w7 ⟨a7, c7⟩
  have b7 := b6.trans (c7.mono hbE)
  clear a6 b6 A1'
  refine glue (p8 h40 h41 hnp1 hnp hpm (hid ?_))
  intro _ _ _ _ w8 e
  subst e
  refine glue (p9 (ef := ef0 len1 (2 ^ nb - 1) mk) hp hnp a7 (hid ?_))
  intro _ _ _ _ _ _ _ _ w9 ⟨a9, c9⟩
  have b9 := b7.trans (c9.mono hbE)
  clear a7 b7
  refine glue (p10 (ef := ef1 len1 (2 ^ nb - 1) p mk) hp hnp hf256 a9 (hid ?_))
  intro _ _ _ _ _ _ _ _ _ _ _ w10 ⟨a10, c10⟩
  have b10 := b9.trans (c10.mono hbE)
  clear a9 b9
  refine glue (p11 (ef := efF len1 (2 ^ nb - 1) p mk) hnp hnp1 hnb8 hnb2 hbE a10 (hid ?_))
  intro o _ _ _ _ _ _ _ _ _ _ w11 ⟨hoE, m11, c11⟩
  subst hoE
  have b11 := b10.trans c11
  clear a10 b10 hbE
  have hef : ∀ i, efF len1 (2 ^ nb - 1) p mk i < 256 := efF_256 hnb2 hnb8 len1 p mk
  have hs1 := some_bit (efF_lt hnb2 len1 p mk p) (efF_ne hnb2 len1 p mk)
  have hs2 := some_clear (efF_lt hnb2 len1 p mk p) (efF_full hnb2 len1 p mk)
  generalize efF len1 (2 ^ nb - 1) p mk = ef at hef hs1 hs2 m11
  refine glue (p12 hnp m11 (A2'.out.below b11) (hid ?_))
  intro _ _ _ _ _ _ _ _ _ _ _ _ _ _ _ _ _ _ _ _ w12 ⟨m12, c12⟩
  have b12 := b11.trans c12
  clear m11 b11 A2'
  refine glue (p13 (Nat.le_trans hnb8 (by omega)) m12 (A3'.out.below b12) (hid ?_))
  intro _ _ _ _ _ _ _ _ _ _ _ _ _ _ _ _ _ _ _ _ w13 ⟨m13, c13⟩
  have b13 := b12.trans c13
  clear m12 b12 A3'
  generalize (fun i => if i < len2 then z2 i else 0) = ld at m13
  generalize (fun i => if i < len3 then z3 i else 0) = us at m13
  refine glue (p14 hnp hnb8 hef m13 (hid ?_))
  intro _ _ _ _ _ _ _ _ _ _ _ _ _ _ _ _ _ _ _ _ _ _ _ _ _ _ _ _ _ _ _ _ _ _ _ _ _ _ _ _ _ _ _ _ _ _ _ _ _ _ _ _ _ w14 ⟨⟨M, F, m14⟩, c14⟩
  have b14 := b13.trans c14
  clear m13 b13
  refine glue (p15 hp hnp m14 (hid ?_))
  intro _ _ _ _ _ _ _ w15 e
  subst e
  -- in, from
  have hrp : rowsF np nb ef p = pick nb fun c => (ef p).testBit c := rowsF_p hp
  have hn1 : 1 ≤ (rowsF np nb ef p).length := by rw [hrp]; exact pick_pos hs1
  have hn2 : (rowsF np nb ef p).length ≤ 1999 := rowsF_len hnp hnb8 p
  obtain ⟨g, cap, hF⟩ : ∃ g cap, F p = .slice (some ⟨g, 0, none⟩) (rowsF np nb ef p).length cap := by
    rcases owns_form (m14.rows p (by omega)) with ⟨_, h⟩ | ⟨g, cap, h⟩
    · omega
    · exact ⟨g, cap, h⟩
  obtain ⟨kf, hkf0, hkf1⟩ := mod_nat (a := a5) hn1
  obtain ⟨fm, hkf⟩ : ∃ fm, (rowsF np nb ef p)[kf]? = some fm := ⟨_, List.getElem?_eq_getElem hkf1⟩
  have hfm1 : fm < nb ∧ (ef p).testBit fm = true := pick_get (hrp ▸ hkf)
  obtain ⟨hfm, hfbit⟩ := hfm1
  rw [hF]
  refine glue (p16 h50 h51 hn1 (Nat.le_trans hn2 (by omega)) hkf0 hkf1 (owns_cell (hF ▸ m14.rows p (by omega)) hkf) (hid ?_))
  intro _ _ _ _ _ _ _ _ w16 e
  subst e
  refine glue (p17 (hid ?_))
  intro  w17 e
  subst e
  refine glue (p18 hp hnp hnb8 (hef p) m14.hE (hid ?_))
  intro v28 _ _ _ _ _ _ _ _ _ _ _ _ _ _ _ _ _ _ _ w18 ⟨own28, c18⟩
  have m18 := m14.below (c18.mono m14.hM)
  have b18 := b14.trans (c18.mono (Nat.le_trans (Nat.le_of_eq hbase) b14.size))
  clear b14
  have hk1 : 1 ≤ (pick nb fun b => !(ef p).testBit b).length := pick_pos hs2
  have hk2 := pick_len nb fun b => !(ef p).testBit b
  obtain ⟨g2, cap2', rfl⟩ : ∃ g cap, v28 = .slice (some ⟨g, 0, none⟩) (pick nb fun b => !(ef p).testBit b).length cap := by
    rcases owns_form own28 with ⟨_, h⟩ | ⟨g, cap, h⟩
    · omega
    · exact ⟨g, cap, h⟩
  obtain ⟨kt, hkt0, hkt1⟩ := mod_nat (a := a6) hk1
  obtain ⟨to, hkt⟩ : ∃ to, (pick nb fun b => !(ef p).testBit b)[kt]? = some to := ⟨_, List.getElem?_eq_getElem hkt1⟩
  obtain ⟨hto, htb0⟩ := pick_get hkt
  have htb : (ef p).testBit to = false := by simpa using htb0
  have hne : fm ≠ to := fun e => by rw [e, htb] at hfbit; cases hfbit
  refine glue (p19 h60 h61 hk1 (by omega) hkt0 hkt1 (owns_cell own28 hkt) (hid ?_))
  intro _ _ _ _ _ _ _ _ w19 e
  subst e
  refine glue (p20 hnb8 m18 (hid ?_))
  intro v31 _ _ _ _ _ w20 ⟨own31, ne31, c20⟩
  clear own28
  have hMB := m18.hM
  have hb19 : base ≤ _ := Nat.le_trans (Nat.le_of_eq hbase) b18.size
  have m20 := m18.below (c20.mono m18.hM)
  have b20 := b18.trans (c20.mono hb19)
  clear m18 b18
  obtain ⟨X, capX, rfl⟩ : ∃ X c, v31 = .slice (some ⟨X, 0, none⟩) nb c := by
    rcases own31.2 with ⟨h, _⟩ | ⟨X, c, cur, h, _⟩
    · exact absurd h ne31
    · exact ⟨X, c, h⟩
  refine glue (p21 hp hnp hfm hnb8 m20 own31 (hid ?_))
  intro _ _ _ _ _ _ _ _ _ _ _ _ _ w21 ⟨own31b, c21⟩
  have m21 := m20.below (c21.mono hMB)
  have b21 := b20.trans (c21.mono hb19)
  clear m20 b20 own31
  refine glue (p22 hp hnp hto hnb8 m21 own31b (hid ?_))
  intro _ _ _ _ _ _ _ _ _ _ _ _ _ w22 ⟨own31c, c22⟩
  have m22 := m21.below (c22.mono hMB)
  have b22 := b21.trans (c22.mono hb19)
  clear m21 b21 own31b
  have r22 := m22.rows p (by omega)
  rw [hF] at r22
  refine glue (p23 (Nat.le_trans hn2 (by omega)) r22 (hid ?_))
  intro v32 _ _ w23 ⟨own32, b23⟩
  obtain ⟨Y, capY, rfl⟩ : ∃ g cap, v32 = .slice (some ⟨g, 0, none⟩) (rowsF np nb ef p).length cap := by
    rcases owns_form own32 with ⟨_, h⟩ | ⟨g, cap, h⟩
    · omega
    · exact ⟨g, cap, h⟩
  refine glue (p24 (Nat.le_trans hn2 (by omega)) own32 (hid ?_))
  intro _ _ _ _ _ _ _ _ _ _ _ _ _ _ _ _ _ w24 ⟨own32b, b24⟩
  have c24 := b23.trans b24
  have hM22 := m22.hM
  have hb22 : base ≤ _ := Nat.le_trans (Nat.le_of_eq hbase) b22.size
  have m24 := m22.below (c24.mono hM22)
  have own31d := owns_below own31c c24 (Nat.le_refl _)
  have b24' := b22.trans (c24.mono hb22)
  clear m22 b23 b24 c24 b22 own31c own32 r22
  refine glue (p25 hnp m24.hE (hid ?_))
  intro v34 _ _ w25 ⟨own34, ne34, b25⟩
  obtain ⟨G, capG, rfl⟩ : ∃ X c, v34 = .slice (some ⟨X, 0, none⟩) np c := by
    rcases own34.2 with ⟨h, _⟩ | ⟨X, c, cur, h, _⟩
    · exact absurd h ne34
    · exact ⟨X, c, h⟩
  refine glue (p26 hp hnp (by omega) (by omega) (hef p) own34 (hid ?_))
  intro _ _ _ _ _ _ _ _ _ _ _ _ _ _ _ w26 ⟨own34b, b26⟩
  have c26 := b25.trans b26
  have hM24 := m24.hM
  have hb24 : base ≤ _ := Nat.le_trans (Nat.le_of_eq hbase) b24'.size
  have m26 := m24.below (c26.mono hM24)
  have own31e := owns_below own31d c26 (Nat.le_refl _)
  have own32c := owns_below own32b c26 (Nat.le_refl _)
  have b26' := b24'.trans (c26.mono hb24)
  clear m24 b25 b26 c26 b24' own31d own32b own34
  -- the move
  have hxf : rowsF np nb ef (np + fm) = pick np fun k => (ef k).testBit fm := rowsF_b
  obtain ⟨kp, hkp⟩ : ∃ kp, (rowsF np nb ef (np + fm))[kp]? = some p := List.getElem?_of_mem (by rw [hxf]; exact mem_pick.2 ⟨hp, hfbit⟩)
  have hkpl := (List.getElem?_eq_some_iff.1 hkp).1
  obtain ⟨y, hy⟩ : ∃ y, (rowsF np nb ef (np + fm))[(rowsF np nb ef (np + fm)).length - 1]? = some y := ⟨_, List.getElem?_eq_getElem (by omega)⟩
  have hC := make7 hp hfm hto hne hnp hnb8 m26 (fun j => rowsF_len hnp hnb8 j) hkf (rise_first (by rw [hrp]; exact pick_rise _ _) hkf) hkp (rise_first (by rw [hxf]; exact pick_rise _ _) hkp) hy
  refine glue (p27 (hid hC) (hid ?_))
  intro _ _ _ _ _ _ w27 ⟨⟨M2, F2, m27⟩, c27⟩
  clear hC m26
  have own31f := c27.owns hMB own31e
  have own32d := c27.owns hM22 own32c
  have own34c := c27.owns hM24 own34b
  have b27 := b26'.trans c27.bel
  clear own31e own32c own34b b26' c27
  have own31g := owns_congr (g := fun i => Value.int .i64 (upd (upd us fm (IntKind.i64.wrap (us fm - ld p))) to (IntKind.i64.wrap (us to + ld p)) i)) own31f (fun i hi => by
    unfold upd
    by_cases e : i = to
    · rw [if_pos e, if_pos e, if_neg (Ne.symm hne)]
    · rw [if_neg e, if_neg e])
  refine glue (p28 hnb8 m27 own31g (hid ?_))
  intro _ _ _ _ _ _ _ _ w28 ⟨q, e28⟩
  have hb27 : base ≤ _ := Nat.le_trans (Nat.le_of_eq hbase) b27.size
  have bq := below_drewN (Below.refl w27.heap.size w27) q
  rw [← e28] at bq
  clear e28
  have m28 := m27.below (bq.mono m27.hM)
  have own32e := owns_below own32d bq (Nat.le_refl _)
  have own34d := owns_below own34c bq (Nat.le_refl _)
  have b28 := b27.trans (bq.mono hb27)
  clear m27 own32d own34c bq b27 own31f own31g
  refine glue (p29 hp hnp hnb8 (fun i _ => hef i) m28 (lp := (rowsF np nb ef p).map fun x => if x = fm then to else x) (by rw [List.length_map]; omega) ((rowsM_p hp hkf).trans (by rw [hrp])) (fun i hi hne => rowsM_i hi hne) (by rw [List.length_map]; exact own32e) (hid ?_))
  intro _ _ _ _ _ _ _ _ _ _ _ _ _ _ _ _ _ _ _ _ _ _ _ _ _ _ _ _ w29 c29
  have hb28 : base ≤ _ := Nat.le_trans (Nat.le_of_eq hbase) b28.size
  have m29 := m28.below (c29.mono m28.hM)
  have own34e := owns_below own34d c29 (Nat.le_refl _)
  have b29 := b28.trans (c29.mono hb28)
  clear m28 own34d b28 own32e
  refine glue (p30 hnp hnb8 (e2 := efT ef p fm to) (fun i _ => efT_lt hef (by omega) i) m29 (fun b hb => rowsM_b hp hnb8 hfm hto hne htb hkp hy hb) own34e (hid ?_))
  intro _ _ _ _ _ _ _ _ _ _ _ _ _ _ _ _ _ _ _ _ _ _ _ _ _ _ _ _ _ _ _ _ _ _ _ _ _ _ _ _ _ _ w30 c30
  have hb29 : base ≤ _ := Nat.le_trans (Nat.le_of_eq hbase) b29.size
  have b30 := b29.trans (c30.mono hb29)
  refine glue (p31 (hid ?_))
  intro  w31 e
  subst e
  clear m29 own34e
  go_wp2
  go_ret
  exact ⟨rfl, hbase ▸ b30⟩
end Go.Proofs.Ybulkqpu.mv
