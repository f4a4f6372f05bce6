import Derived.Test.Qxb6616814aFmtAll2
namespace Go.Proofs.Qxb6616814aFmt
open Go.ChangeShapes Go.WideShapes Go.ChangeAt Go.RowKit
set_option linter.unusedSimpArgs false
set_option linter.unusedVariables false

/-- A slice of bytes that holds xs. -/
structure By (w : World) (a : Option Addr) (xs : List Int) : Prop where
  row : xs.length = 0 ∨ ∃ b off, a = some ⟨b, off, none⟩ ∧ b < w.heap.size ∧ ∀ i, i < xs.length → w.cell? ⟨b, off + i, none⟩ = some (.int .u8 (xs.getD i 0))
  byt : ∀ j, 0 ≤ xs.getD j 0 ∧ xs.getD j 0 ≤ 255
  len : xs.length ≤ 2097152

theorem hide {p : Prop} (h : p) : Hid p := h
theorem By.keep {w w' : World} {a : Option Addr} {xs : List Int} (h : By w a xs) (hc : Ch w w' []) : By w' a xs := by
  refine ⟨?_, h.byt, h.len⟩
  rcases h.row with h0 | ⟨b, off, ha, hb, hcell⟩
  · exact .inl h0
  · exact .inr ⟨b, off, ha, by have := hc.size; omega, fun i hi => by rw [hc.cell hb (by simp)]; exact hcell i hi⟩

theorem EofAt.keep {w w' : World} {ea : Addr} {A : List Nat} (h : EofAt w ea) (hc : Ch w w' A) (h0 : 0 < w.heap.size) (hA : 0 ∉ A) : EofAt w' ea := by
  unfold EofAt at *
  rw [hc.cell h0 hA]; exact h
theorem EofAt.pos {w : World} {ea : Addr} (h : EofAt w ea) : 0 < w.heap.size := by
  by_cases h0 : 0 < w.heap.size
  · exact h0
  · unfold EofAt at h
    simp [World.cell?, Array.getElem?_eq_none (show w.heap.size ≤ 0 by omega)] at h

/-- The text without one mark ahead of it. -/
def strip (xs : List Int) : List Int := xs.drop (startOf xs xs.length)
theorem startOf_le (xs : List Int) : startOf xs xs.length ≤ xs.length := by
  unfold startOf marked
  split
  · rename_i h; simp at h; omega
  · omega
theorem getD_drop (xs : List Int) (s j : Nat) : (xs.drop s).getD j 0 = xs.getD (s + j) 0 := by
  simp [List.getD_eq_getElem?_getD]

/-- What comes back: the bytes, and no error. -/
def TextRes (w : World) (A : List Nat) (xs : List Int) (last : Value) (e : Ending) (w' : World) : Prop :=
  ∃ a c, e = .returned (.tuple #[.slice a xs.length c, last]) ∧ By w' a xs ∧ Ch w w' A

set_option maxHeartbeats 1000000 in
set_option maxRecDepth 100000 in
theorem readText_any (w : World) (Q c : Nat) (d : Option Addr) (xs : List Int) (ea : Addr) (hE : EofAt w ea) (q0 : w.cell? ⟨Q, 0, none⟩ = some (.slice d xs.length c)) (q1 : w.cell? ⟨Q, 1, none⟩ = some (.int .i64 0)) (x2 : Value) (q2 : w.cell? ⟨Q, 2, none⟩ = some x2) (qf : ∀ j, w.frozen? ⟨Q, j, none⟩ = false) (lQ : Q < w.heap.size) (pQ : 0 < Q)
    (hb : By w d xs) (hcap : xs.length ≤ c) (hD : xs.length = 0 ∨ ∀ D off, d = some ⟨D, off, none⟩ → D ≠ Q) :
    Calls Tryf.prog 13 #[.iface 34 (.pointer (some ⟨Q, 0, none⟩))] w fun e w' => TextRes w [Q] (strip xs) .nilIface e w' := by
  have HE : Hid (EofAt w ea) := hE
  have HB : Hid (By w d xs) := hb
  have h1 := newReader_any w Q xs.length c d xs q0 q1 x2 q2 qf lQ (by have := hb.len; omega) (by
    rcases hb.row with h0 | ⟨b, off, ha, hb1, hcell⟩
    · exact .inl h0
    · rcases hD with h0 | hD
      · exact .inl h0
      · exact .inr ⟨b, off, ha, hb1, hD b off ha, hcap, hcell⟩)
  have H1 := hide h1
  clear h1 hE hb q0 q1 q2 qf hD
  go_enter Tryf.func13, Tryf.ntmps13
  go_wp2_with fail
  refine H1.out.mono ?_
  rintro e w1 ⟨rfl, ch1, sz1, hst1⟩
  have H2 := hide <| skip_any w1 w.heap.size (w.heap.size + 1) Q xs.length c d xs hst1 ea (HE.out.keep ch1 HE.out.pos (by simp)) ⟨HE.out.pos, by omega, pQ⟩ HB.out.byt
  have C1 : Hid (Ch w w1 []) := ch1
  clear H1 ch1 sz1 hst1
  go_wp2_with fail
  refine H2.out.mono ?_
  rintro e w2 ⟨rfl, ch2, sz2, hst2⟩
  have C2 : Hid (Ch w w2 [Q]) := (C1.out.mono (by simp)).trans2 ch2 (by intro x hx; simp at hx ⊢; omega)
  have H3 := hide <| readAll_any w2 w.heap.size (w.heap.size + 1) Q xs.length c (startOf xs xs.length) d xs ea (HE.out.keep C2.out HE.out.pos (by simp; omega)) ⟨HE.out.pos, by omega, pQ⟩ hst2 HB.out.len (startOf_le xs) HB.out.byt
  clear H2 C1 ch2 sz2 hst2
  go_wp2_with fail
  refine H3.out.mono ?_
  rintro e w3 ⟨g, cap, rfl, ch3, g1, g2, hcells⟩
  have HF : Hid (TextRes w [Q] (strip xs) .nilIface (.returned (.tuple #[.slice (some ⟨g, 0, none⟩) (xs.length - startOf xs xs.length) cap, .nilIface])) w3) := by
    refine ⟨some ⟨g, 0, none⟩, cap, by unfold strip; rw [List.length_drop], ⟨.inr ⟨g, 0, rfl, g2, fun i hi => ?_⟩, fun j => ?_, ?_⟩, C2.out.trans2 ch3 (by intro x hx; have := C2.out.size; simp at hx ⊢; omega)⟩
    · unfold strip at hi ⊢
      rw [List.length_drop] at hi
      rw [Nat.zero_add, getD_drop]; exact hcells i hi
    · unfold strip; rw [getD_drop]; exact HB.out.byt _
    · have := HB.out.len; unfold strip; rw [List.length_drop]; omega
  clear H3 ch3 hcells
  go_wp2
  go_returns
  exact HF.out

set_option maxHeartbeats 1000000 in
theorem bytesReader_any (w : World) (d : Option Addr) (n c : Nat) :
    Calls Tryf.prog 14 #[.slice d n c] w fun e w' => e = .returned (.pointer (some ⟨w.heap.size, 0, none⟩)) ∧ w' = w.alloc (.cells #[.slice d n c, .int .i64 0, .int .i64 (-1)] 43) := by
  go_enter Tryf.func14, Tryf.ntmps14
  go_wp2
  go_ret
  exact ⟨rfl, rfl⟩

set_option maxHeartbeats 1000000 in
set_option maxRecDepth 100000 in
theorem zzRead_any (w : World) (c : Nat) (d : Option Addr) (xs : List Int) (ea : Addr) (hE : EofAt w ea) (hb : By w d xs) (hcap : xs.length ≤ c) :
    Calls Tryf.prog 7 #[.slice d xs.length c] w fun e w' => TextRes w [] (strip xs) (.bool false) e w' := by
  have HE : Hid (EofAt w ea) := hE
  have HB : Hid (By w d xs) := hb
  clear hE hb
  go_enter Tryf.func7, Tryf.ntmps7
  go_wp2_with fail
  refine (bytesReader_any w d xs.length c).mono ?_
  rintro e w1 ⟨rfl, hw1⟩
  have ch1 : Ch w w1 [] := by rw [hw1]; exact (Ch.refl w []).alloc _ _
  have hc1 : ∀ j, w1.cell? ⟨w.heap.size, j, none⟩ = (#[Value.slice d xs.length c, .int .i64 0, .int .i64 (-1)] : Array Value)[j]? := fun j => by rw [hw1, cell_alloc, if_pos rfl]
  have hf1 : ∀ j, w1.frozen? ⟨w.heap.size, j, none⟩ = false := fun j => by rw [hw1, frozen?_alloc_cells]; exact frozen_out _ _ _ (Nat.le_refl _)
  have hs1 : w1.heap.size = w.heap.size + 1 := by rw [hw1, World.size_alloc]
  have hby1 := HB.out.keep ch1
  have hd1 : xs.length = 0 ∨ ∀ D off, d = some ⟨D, off, none⟩ → D ≠ w.heap.size := by
    rcases HB.out.row with h0 | ⟨b, off, ha, hb1, _⟩
    · exact .inl h0
    · right
      intro D off' hd
      rw [ha] at hd
      simp at hd
      omega
  have H2 := hide <| readText_any w1 w.heap.size c d xs ea (HE.out.keep ch1 HE.out.pos (by simp)) (by rw [hc1]; rfl) (by rw [hc1]; rfl) _ (by rw [hc1]; rfl) hf1 (by omega) HE.out.pos hby1 hcap hd1
  have C1 := hide ch1
  clear hw1 ch1 hc1 hf1 hs1 hby1 hd1
  go_wp2_with fail
  refine H2.out.mono ?_
  rintro e w2 ⟨a, c2, rfl, hby2, ch2⟩
  have HF := hide (And.intro hby2 (C1.out.trans2 ch2 (by intro x hx; simp at hx ⊢; omega)))
  clear H2 hby2 ch2 C1
  go_wp2_with fail
  go_quiet (fail)
  go_wp2
  go_returns
  exact ⟨a, c2, rfl, HF.out.1.keep ((Ch.refl w2 []).drewN _), HF.out.2.drewN _⟩
end Go.Proofs.Qxb6616814aFmt
