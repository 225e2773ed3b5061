import Derived.Test.YbulkqwgFmtC10
namespace Go.Proofs.YbulkqwgFmt.sp
open Go.RowKit Go.MuLone
set_option linter.unusedVariables false
set_option maxRecDepth 100000

/-- What is left of the entries when a record of entry r is taken. -/
def took (es : List Ent) (r : Nat) : List Ent :=
  if (es.getD r default).2.2 = 1 then es.eraseIdx r else es.set r ((es.getD r default).1, (es.getD r default).2.1 + 1, (es.getD r default).2.2 - 1)
theorem free11_hit {SP S base r nx l : Nat} {mu : Int} {q nm : ByteArray} {gv fv : Value} {es : List Ent} {w : World} (hn : es.length ≤ 2) (hh : Hit es q r) (he : es.getD r default = (nm, nx, l)) (hl : 1 ≤ l) (hl2 : l ≤ 9) (hx : nx ≤ 1099511627776)
    (hS : At w SP (spaceCells S mu gv fv) 35) (hf : Free w base fv es) (hne : fv.ownBlock ≠ some SP) :
    Calls Ybaf.prog 11 #[.pointer (some ⟨SP, 0, none⟩), .string q] w fun e w' => e = .returned (.tuple #[.int .u64 (nx : Int), .nilIface]) ∧
      ∃ fv', At w' SP (spaceCells S mu gv fv') 35 ∧ Free w' base fv' (took es r) ∧ fv'.ownBlock = fv.ownBlock ∧ Chg (fun x => fv.ownBlock = some x ∨ x = SP) w w' := by
  by_cases h1 : l = 1
  · subst h1
    refine (free11_last hn hh he hx hS hf hne).mono ?_
    rintro e w' ⟨rfl, fv', h2, h3, h4, h5⟩
    exact ⟨rfl, fv', h2, by unfold took; rw [he]; exact h3, h4, h5⟩
  · refine (free11_more hn hh he (by omega) hl2 hx hS hf hne).mono ?_
    rintro e w' ⟨rfl, h2, h3, h4⟩
    exact ⟨rfl, fv, h2, by unfold took; rw [he, if_neg h1]; exact h3, rfl, h4.mono fun _ _ h => .inl h⟩

/-- The groups held. -/
def grps (gl : List (Nat × Nat)) : List Value := gl.flatMap fun g => [.int .i64 (g.1 : Int), .int .i64 (g.2 : Int)]
theorem grps_len (gl : List (Nat × Nat)) : (grps gl).length = gl.length * 2 := by
  unfold grps; induction gl with
  | nil => rfl
  | cons e l ih => simp [List.flatMap_cons, ih]; omega
theorem owns_chg {S : Nat → Prop} {w w' : World} {base n k : Nat} {e : TypeId} {v : Value} {xs : List Value} (h : w.ownsRow base e k v n xs) (hc : Chg S w w') (hS : ∀ g, v.ownBlock = some g → ¬ S g) : w'.ownsRow base e k v n xs := by
  refine ⟨h.1, ?_⟩
  rcases h.2 with hn | ⟨g, cap, cur, hv, h1, h2, rest⟩
  · exact .inl hn
  · exact .inr ⟨g, cap, cur, hv, h1, by rw [hc.block g (Array.getElem?_eq_some_iff.1 h2).1 (hS g (by rw [hv]; rfl))]; exact h2, rest⟩
theorem owns_lt {w : World} {base n k g : Nat} {e : TypeId} {v : Value} {xs : List Value} (h : w.ownsRow base e k v n xs) (hg : v.ownBlock = some g) : base ≤ g ∧ g < w.heap.size := by
  rcases h.2 with ⟨rfl, _⟩ | ⟨g', cap, cur, rfl, h1, h2, rest⟩
  · simp [Value.ownBlock] at hg
  · simp [Value.ownBlock] at hg; subst hg
    exact ⟨h1, (Array.getElem?_eq_some_iff.1 h2).1⟩

/-- The space, behind the spool's blocks. -/
structure Space (b c gs n0 n1 k0 k1 : Nat) (aF : Addr) (gv fv : Value) (gl : List (Nat × Nat)) (es : List Ent) (w : World) : Prop where
  sp : Spool b gs n0 n1 k0 k1 0 aF w
  S : At w (b + 13) (spaceCells (b + 12) 0 gv fv) 35
  groups : w.ownsRow c 79 2 gv gl.length (grps gl)
  free : Free w c fv es
  apart : ∀ g, gv.ownBlock = some g → fv.ownBlock ≠ some g
  two : es.length ≤ 2
  hc : b + 14 ≤ c
  sz : c ≤ w.heap.size

section
variable {b c gs n0 n1 k0 k1 : Nat} {aF : Addr} {gv fv : Value} {gl : List (Nat × Nat)} {es : List Ent} {w w' : World} {S : Nat → Prop}
theorem Space.chg (h : Space b c gs n0 n1 k0 k1 aF gv fv gl es w) (hc : Chg S w w') (hS : ∀ g, ¬ S g) : Space b c gs n0 n1 k0 k1 aF gv fv gl es w' where
  sp := h.sp.chg hc fun g _ => hS g
  S := h.S.chg hc (hS _)
  groups := owns_chg h.groups hc fun g _ => hS g
  free := h.free.chg hc fun g _ => hS g
  apart := h.apart
  two := h.two
  hc := h.hc
  sz := Nat.le_trans h.sz hc.size
end

set_option maxHeartbeats 8000000 in
/-- '(*Space).record': a record is left in a group that is held. -/
theorem record6_hit {b c gs n0 n1 k0 k1 r nx l : Nat} {aF : Addr} {gv fv cv : Value} {gl : List (Nat × Nat)} {es : List Ent} {q nm : ByteArray} {w : World}
    (hh : Hit es q r) (he : es.getD r default = (nm, nx, l)) (hl : 1 ≤ l) (hl2 : l ≤ 9) (hx1 : 1 ≤ nx) (hx : nx ≤ 1099511627776) (h : Space b c gs n0 n1 k0 k1 aF gv fv gl es w) :
    Calls Ybaf.prog 6 #[.pointer (some ⟨b + 13, 0, none⟩), cv, .string q] w fun e w' => e = .returned (.tuple #[.int .u64 (nx : Int), .nilIface]) ∧
      (∃ fv', Space b c gs n0 n1 k0 k1 aF gv fv' gl (took es r) w') ∧ Chg (fun x => b ≤ x ∧ (x < b + 14 ∨ c ≤ x)) w w' := by
  have hc := h.hc
  have c1 := h.S.cell (k := 1) rfl
  have z1 := h.S.frozen 1
  have ltS := h.S.lt
  have hF : ∀ g, fv.ownBlock = some g → c ≤ g := fun g hg => (h.free.lt hg).1
  have hG : ∀ g, gv.ownBlock = some g → c ≤ g := fun g hg => (owns_lt h.groups hg).1
  have H := hid h
  have HF := hid hF
  have HG := hid hG
  clear h hF hG
  go_enter Ybaf.func6, Ybaf.ntmps6
  go_wp2_with fail
  refine (lock_free Ybaf.muLib ⟨b + 13, 1, none⟩ _ c1 z1).mono ?_
  rintro e w1 ⟨rfl, e1⟩
  have K1 : Chg (fun x => x = b + 13) w w1 := by rw [e1]; exact Chg.setCell (S := fun x => x = b + 13) (Chg.refl _ w) (.inl rfl) 1 _
  have S1 : At w1 (b + 13) (spaceCells (b + 12) 1 gv fv) 35 := by rw [e1]; exact H.out.S.set 1 (.int .i32 1)
  have F1 : Free w1 c fv es := H.out.free.chg K1 fun g hg e => by have := HF.out g hg; omega
  have H11 := hid (free11_hit H.out.two hh he hl hl2 hx S1 F1 (fun e => by have := HF.out _ e; omega))
  have HK1 := hid K1
  clear e1 c1 z1 K1 S1 F1
  go_wp2_with fail
  refine H11.out.mono ?_
  rintro e w2 ⟨rfl, fv', S2, F2, o2, C2⟩
  have c1 := S2.cell (k := 1) rfl
  have z1 := S2.frozen 1
  have HS2 := hid S2
  have HF2 := hid F2
  have HO := hid o2
  have HC2 := hid C2
  clear S2 F2 o2 C2 H11
  go_wp2_with fail
  refine (unlock_held Ybaf.muLib ⟨b + 13, 1, none⟩ _ c1 z1).mono ?_
  rintro e w3 ⟨rfl, e3⟩
  have K3 : Hid (Chg (fun x => x = b + 13) w2 w3) := by rw [e3]; exact Chg.setCell (S := fun x => x = b + 13) (Chg.refl _ w2) (.inl rfl) 1 _
  have S3 : Hid (At w3 (b + 13) (spaceCells (b + 12) 0 gv fv') 35) := by rw [e3]; exact HS2.out.set 1 (.int .i32 0)
  have hz : ((nx : Int) == 0) = false := by simp; omega
  clear e3 c1 z1
  go_wp2
  go_ret2
  have a1 : Chg (fun x => fv.ownBlock = some x ∨ x = b + 13) w w3 := ((HK1.out.mono fun _ _ h => .inr h).trans HC2.out).trans (K3.out.mono fun _ _ h => .inr h)
  refine ⟨rfl, ⟨fv', ?_⟩, a1.mono fun x _ hx => ?_⟩
  · exact {
      sp := H.out.sp.chg a1 fun g hg e => by
        rcases e with e | e
        · have := HF.out g e; omega
        · omega
      S := S3.out
      groups := owns_chg H.out.groups a1 fun g hg e => by
        have := HG.out g hg
        rcases e with e | e
        · exact H.out.apart g hg e
        · omega
      free := HF2.out.chg K3.out fun g hg e => by
        rw [HO.out] at hg
        have := HF.out g hg; omega
      apart := fun g hg => by rw [HO.out]; exact H.out.apart g hg
      two := by
        have := H.out.two
        unfold took
        split
        · rw [List.length_eraseIdx]; split <;> omega
        · simpa using this
      hc := hc
      sz := Nat.le_trans H.out.sz a1.size }
  · rcases hx with e | e
    · have := HF.out x e; omega
    · omega
end Go.Proofs.YbulkqwgFmt.sp
