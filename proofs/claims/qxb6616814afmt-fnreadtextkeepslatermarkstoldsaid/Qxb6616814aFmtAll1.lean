import Derived.Test.Qxb6616814aFmtAll0
namespace Go.Proofs.Qxb6616814aFmt
open Go.ChangeShapes Go.WideShapes Go.ChangeAt Go.RowKit
set_option linter.unusedSimpArgs false
set_option linter.unusedVariables false

/-- A new row of zeros: n of them and room up to cp. -/
def zeros (n cp : Nat) : Array Value := Builtin.zeroCells (Value.int .u8 0).cells n ++ Builtin.zeroCells (Value.int .u8 0).cells (cp - n)
theorem size_zeros (n cp : Nat) (h : n ≤ cp) : (zeros n cp).size = cp := by simp [zeros, size_zeroCells, Value.cells]; omega
theorem zeros_at (n cp i : Nat) (h : n ≤ cp) (hi : i < cp) : ((zeros n cp)[i]?).isSome = true := by
  rw [Array.getElem?_eq_getElem (by rw [size_zeros n cp h]; exact hi)]; rfl

/-- append(nil, make([]byte, n)...). -/
theorem appendZeros (w : World) (n : Nat) (h0 : 0 < n) (hn : n ≤ 1073741824) : (Builtin.append_ #[22, 3] 22 #[.slice none 0 0, .int .i64 n]).run Tryf.prog w =
    .ok (.slice (some ⟨w.heap.size, 0, none⟩) n (grownCap w n 0 5)) (w.drew.alloc (.cells (zeros n (grownCap w n 0 5)) 5)) := by
  obtain ⟨i, hi, hb, hs, hz⟩ := info5
  exact Lib.run_append_nil_zeros (P := Tryf.prog) w 22 3 22 5 i (.int .u8 0) .i64 .i64 Tryf.underlying22 Tryf.underlying3 hi hz n h0 (by omega) (by omega) (by rw [hb]; omega)

theorem Ch.grown {w w2 w3 : World} {A : List Nat} {g : Nat} (h : Ch w w2 A) (hg : w2.grownBy w3 (some g)) (hN : w.heap.size ≤ g) : Ch w w3 A :=
  ⟨hg.os.trans h.os, hg.tape.trans h.tape, hg.output.trans h.output, Nat.le_trans h.size hg.size, fun b hb hn => (hg.block b (Nat.lt_of_lt_of_le hb h.size) (by simp; omega)).trans (h.block b hb hn), fun b j hb => by
    rw [World.frozen?_of_block (w := w2) (a := ⟨b, j, none⟩) (hg.block b (Nat.lt_of_lt_of_le hb h.size) (by simp; omega))]; exact h.fz b j hb⟩

/-- The stream stands on blocks below N only. -/
theorem Strm.low {w w' : World} {K F Q : Nat} {d : Option Addr} {n c : Nat} {xs : List Int} {pos N : Nat} (h : Strm w K F Q d n c xs pos) (hs : w.heap.size ≤ w'.heap.size) (hb : ∀ b, b < N → w'.heap[b]? = w.heap[b]?) (hK : K < N) (hF : F < N) (hQ : Q < N) (hD : ∀ D off, d = some ⟨D, off, none⟩ → n = 0 ∨ D < N) : Strm w' K F Q d n c xs pos := by
  obtain ⟨i, r, v, h, he⟩ := h
  have cc : ∀ b j, b < N → w'.cell? ⟨b, j, none⟩ = w.cell? ⟨b, j, none⟩ := fun b j h1 => World.cell?_of_block (w := w) (a := ⟨b, j, none⟩) (hb b h1)
  have ff : ∀ b j, b < N → w'.frozen? ⟨b, j, none⟩ = w.frozen? ⟨b, j, none⟩ := fun b j h1 => World.frozen?_of_block (w := w) (a := ⟨b, j, none⟩) (hb b h1)
  refine ⟨i, r, v, ⟨by rw [cc _ _ hK]; exact h.k0, by rw [cc _ _ hK]; exact h.k1, by rw [cc _ _ hK]; exact h.k2, by rw [cc _ _ hK]; exact h.k3, by rw [cc _ _ hK]; exact h.k4, by rw [cc _ _ hK]; exact h.k5, by rw [cc _ _ hK]; exact h.k6, fun j => by rw [ff _ _ hK]; exact h.kf j, by rw [cc _ _ hQ]; exact h.q0, by rw [cc _ _ hQ]; exact h.q1, by rw [cc _ _ hQ]; exact h.q2, fun j => by rw [ff _ _ hQ]; exact h.qf j, ?_, fun j hj => by rw [cc _ _ hF]; exact h.bh j hj, fun j => by rw [ff _ _ hF]; exact h.bf j, fun j a b => by rw [cc _ _ hF]; exact h.bv j a b, h.rv, h.v4, h.iv, h.inn, h.nb, h.kF, h.kQ, h.fQ, by have := h.lK; omega, by have := h.lF; omega, by have := h.lQ; omega⟩, he⟩
  rcases h.dat with h0 | ⟨D, off, hd, hl, n1, n2, n3, hcc, hcells⟩
  · exact .inl h0
  · rcases hD D off hd with h0 | h0
    · exact .inl h0
    · exact .inr ⟨D, off, hd, by omega, n1, n2, n3, hcc, fun j hj => by rw [cc _ _ h0]; exact hcells j hj⟩

/-- The chunk at hand is laid by, and a new one begun. -/
theorem RA.roll {w w2 w4 : World} {K F Q : Nat} {d : Option Addr} {n c : Nat} {xs : List Int} {pos G l cp nx gc nc cc g cap : Nat} {L : List (Nat × Nat × Nat)} (hn : n ≤ 2097152) (ho : Olds w K F Q n d) (h : RA w w2 K F Q d n c xs pos G l cp nx gc nc cc L) (hl : cp - l < cp / 16)
    (hgrow : (w2.alloc (.cells #[.slice (some ⟨G, 0, none⟩) l cp] 22)).grownBy w4 (some gc)) (hown : w4.ownsRow w.heap.size 22 1 (.slice (some ⟨g, 0, none⟩) (nc + 1) cap) (nc + 1) (L.map chunkV ++ [.slice (some ⟨G, 0, none⟩) l cp])) (hat : gc = g ∨ g = w2.heap.size + 1) (hlt : g < w4.heap.size) :
    RA w (w4.drew.alloc (.cells (zeros nx (grownCap w4 nx 0 5)) 5)) K F Q d n c xs pos w4.heap.size 0 (grownCap w4 nx 0 5) (nx + nx / 2) g (nc + 1) cap (L ++ [(G, l, cp)]) := by
  have e1 := ho.k
  have e2 := ho.f
  have e3 := ho.q
  have e4 := h.gN
  have e5 := h.gcN
  have e6 := h.gcG
  have e7 := h.gS
  have e8 := h.gcS
  have e9 := h.pn
  have e10 := h.nx1
  have e11 := h.nx2
  have e12 := h.nx3
  have e13 := h.ncn
  have e14 := h.c256
  have e15 := h.lc
  have hs3 : (w2.alloc (.cells #[.slice (some ⟨G, 0, none⟩) l cp] 22)).heap.size = w2.heap.size + 1 := World.size_alloc _ _
  have hs4 := hgrow.size
  rw [hs3] at hs4
  have hcap : nx ≤ grownCap w4 nx 0 5 := grownCap_ge _ _ _ _
  have hs5 : (w4.drew.alloc (.cells (zeros nx (grownCap w4 nx 0 5)) 5)).heap.size = w4.heap.size + 1 := World.size_alloc _ _
  generalize hcp' : grownCap w4 nx 0 5 = cp' at *
  have hcm : cp' ≤ maxLen := by rw [← hcp']; exact grownCap_le_maxLen _ _ _ _ (by unfold maxLen; omega)
  have b5 : ∀ b, b < w4.heap.size → (w4.drew.alloc (.cells (zeros nx cp') 5)).heap[b]? = w4.heap[b]? := fun b hb => Below.heap_alloc w4.drew _ _ hb
  have b4 : ∀ b, b < w2.heap.size → b ≠ gc → w4.heap[b]? = w2.heap[b]? := fun b hb hne => by
    rw [hgrow.block b (by omega) (by simpa using hne)]
    exact Below.heap_alloc w2 _ _ hb
  have b25 : ∀ b, b < w2.heap.size → b ≠ gc → (w4.drew.alloc (.cells (zeros nx cp') 5)).heap[b]? = w2.heap[b]? := fun b hb hne => (b5 b (by omega)).trans (b4 b hb hne)
  have hch : Ch w (w4.drew.alloc (.cells (zeros nx cp') 5)) [K, F, Q] := (((h.ch.alloc _ _).grown hgrow e5).drew).alloc _ _
  have hss := h.ch.size
  refine ⟨hch, ?_, by omega, by omega, by omega, hcm, by omega, fun j hj => ?_, fun j => ?_, fun j hj => by omega, ?_, by omega, by omega, by omega, ?_, by omega, by omega, by rw [lenSum_snoc]; omega, by rw [lenSum_snoc]; omega, by rw [lenSum_snoc]; omega⟩
  · rw [lenSum_snoc]
    have := h.st
    rw [show pos + lenSum L + l = pos + (lenSum L + l) + 0 from by omega] at this
    exact this.low (N := w.heap.size) (by omega) (fun b hb => b25 b (by omega) (by omega)) e1 e2 e3 ho.d
  · rw [cell_alloc, if_pos (show w4.heap.size = w4.drew.heap.size from rfl)]; exact zeros_at nx cp' j hcap hj
  · rw [frozen?_alloc_cells]; exact frozen_out _ _ _ (Nat.le_refl _)
  · have := owns_keep hown (b5 g hlt)
    simpa [chunkV] using this
  · refine Parts.snoc (by omega) e4 (by omega) (by omega) (by rcases hat with h | h <;> omega) L pos (Parts.keep (by omega) (fun b h1 h2 h3 h4 => ⟨b25 b h2 h4, by omega, by rcases hat with h | h <;> omega⟩) L pos h.parts) (fun j hj => ?_)
    rw [World.cell?_of_block (w := w2) (a := ⟨G, j, none⟩) (b25 G e7 (by omega))]
    exact h.cells j hj

/-- The final slice, t of the chunks in it. -/
structure FA (w1 wr : World) (xs : List Int) (pos g S cap : Nat) : Prop where
  low : Below w1.heap.size w1 wr
  own : wr.ownsRow w1.heap.size 5 1 (.slice (some ⟨g, 0, none⟩) S cap) S (vals xs pos S)

theorem FA.start (w1 : World) (xs : List Int) (pos n : Nat) (hn : n ≤ 1073741824) :
    FA w1 (w1.drew.alloc (.cells (zeros n (grownCap w1 n 0 5)) 5)) xs pos w1.heap.size 0 (grownCap w1 n 0 5) := by
  have hcap : n ≤ grownCap w1 n 0 5 := grownCap_ge _ _ _ _
  have hcm : grownCap w1 n 0 5 ≤ maxLen := grownCap_le_maxLen _ _ _ _ (by unfold maxLen; omega)
  have hch : Ch w1 (w1.drew.alloc (.cells (zeros n (grownCap w1 n 0 5)) 5)) [] := ((Ch.refl w1 _).drew).alloc _ _
  exact ⟨hch.below (by simp) (Nat.le_refl _), by
    have := World.ownsRow_made (base := w1.heap.size) (e := 5) (size := 1) w1.drew (zeros n (grownCap w1 n 0 5)) (grownCap w1 n 0 5) (Nat.le_refl _) hcm (by rw [size_zeros _ _ hcap]; omega)
    simpa [vals] using this⟩

theorem vals_app (xs : List Int) (pos a b : Nat) : vals xs pos a ++ vals xs (pos + a) b = vals xs pos (a + b) := by
  simp [vals, List.range_add, Nat.add_assoc]

theorem FA.grow {w1 wr w' : World} {xs : List Int} {pos g S cap l g' cap' : Nat} (h : FA w1 wr xs pos g S cap) (hg : wr.grownBy w' (some g)) (ho : w'.ownsRow w1.heap.size 5 1 (.slice (some ⟨g', 0, none⟩) (S + l) cap') (S + l) (vals xs pos S ++ vals xs (pos + S) l)) : FA w1 w' xs pos g' (S + l) cap' := by
  have hgb := h.own.lt g rfl
  have hs := h.low.size
  refine ⟨⟨hg.os.trans h.low.os, hg.tape.trans h.low.tape, hg.output.trans h.low.output, Nat.le_trans h.low.size hg.size, fun k hk => (hg.block k (by omega) (by simp; omega)).trans (h.low.block k hk)⟩, ?_⟩
  rw [vals_app] at ho
  exact ho
end Go.Proofs.Qxb6616814aFmt
