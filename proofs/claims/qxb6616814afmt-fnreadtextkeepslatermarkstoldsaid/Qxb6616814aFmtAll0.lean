import Derived.Test.Qxb6616814aFmtReadE
import Derived.Test.Qxb6616814aFmtNew
import Derived.Deep.AppendLies
import Derived.Lib.AppendZeros
namespace Go.Proofs.Qxb6616814aFmt
open Go.ChangeShapes Go.WideShapes Go.ChangeAt Go.RowKit
set_option linter.unusedSimpArgs false
set_option linter.unusedVariables false

/-- The chunks laid by so far: each a row of bytes of its own, the first from p on. -/
def Parts (w : World) (N G gc : Nat) (xs : List Int) : Nat → List (Nat × Nat × Nat) → Prop
  | _, [] => True
  | p, (g, l, c) :: L => (0 < l ∧ N ≤ g ∧ g < w.heap.size ∧ g ≠ G ∧ g ≠ gc ∧ ∀ j, j < l → w.cell? ⟨g, j, none⟩ = some (.int .u8 (xs.getD (p + j) 0))) ∧ Parts w N G gc xs (p + l) L
def lenSum : List (Nat × Nat × Nat) → Nat
  | [] => 0
  | (_, l, _) :: L => l + lenSum L
def chunkV (x : Nat × Nat × Nat) : Value := .slice (some ⟨x.1, 0, none⟩) x.2.1 x.2.2

theorem lenSum_snoc (L : List (Nat × Nat × Nat)) (g l c : Nat) : lenSum (L ++ [(g, l, c)]) = lenSum L + l := by
  induction L with
  | nil => simp [lenSum]
  | cons x L ih => obtain ⟨a, b, e⟩ := x; simp [lenSum, ih]; omega

/-- The loop's state. -/
structure RA (w wr : World) (K F Q : Nat) (d : Option Addr) (n c : Nat) (xs : List Int) (pos G l cp nx gc nc cc : Nat) (L : List (Nat × Nat × Nat)) : Prop where
  ch : Ch w wr [K, F, Q]
  st : Strm wr K F Q d n c xs (pos + lenSum L + l)
  gN : w.heap.size ≤ G
  gS : G < wr.heap.size
  lc : l ≤ cp
  cm : cp ≤ maxLen
  c256 : 256 ≤ cp
  has : ∀ j, j < cp → (wr.cell? ⟨G, j, none⟩).isSome = true
  fz : ∀ j, wr.frozen? ⟨G, j, none⟩ = false
  cells : ∀ j, j < l → wr.cell? ⟨G, j, none⟩ = some (.int .u8 (xs.getD (pos + lenSum L + j) 0))
  own : wr.ownsRow w.heap.size 22 1 (.slice (some ⟨gc, 0, none⟩) nc cc) nc (L.map chunkV)
  gcN : w.heap.size ≤ gc
  gcS : gc < wr.heap.size
  gcG : gc ≠ G
  parts : Parts wr w.heap.size G gc xs pos L
  nx1 : nx ≤ 2 * cp
  nx2 : 256 ≤ nx
  nx3 : nx ≤ 256 + 2 * lenSum L
  ncn : nc ≤ lenSum L
  pn : pos + lenSum L + l ≤ n

theorem info22 : ∃ i, Tryf.prog.info? 22 = some i ∧ i.bytes = 24 ∧ i.size = 1 ∧ i.zero = some (.slice none 0 0) := by
  have h1 : (Tryf.prog.info? 22).map (fun i => (i.bytes, i.size)) = some (24, 1) := by kernel_rfl
  have h3 : (Tryf.prog.info? 22).bind (·.zero) = some (.slice none 0 0) := by kernel_rfl
  cases hi : Tryf.prog.info? 22 with
  | none => rw [hi] at h1; cases h1
  | some i =>
    rw [hi] at h1 h3
    simp at h1 h3
    exact ⟨i, rfl, h1.1, h1.2, h3⟩
def blank4 : Array Value := madeCells (Value.slice none 0 0).cells (4 * 1)
theorem make49 (w : World) : (Instr.makeSlice 49 (.int .i64 0) (.int .i64 4)).run Tryf.prog w = .ok (.slice (some ⟨w.heap.size, 0, none⟩) 0 4) (w.alloc (.cells blank4 22)) := by
  obtain ⟨i, hi, hb, hs, hz⟩ := info22
  have h := run_make (P := Tryf.prog) w 49 22 i (.slice none 0 0) Tryf.underlying49 hi hz .i64 .i64 0 4 (by omega) (by omega) (by rw [hb]; omega) (by omega)
  rw [hs] at h
  exact h

/-- What io.ReadAll hands back. -/
def AllRes (w : World) (K F Q n pos : Nat) (xs : List Int) (e : Ending) (w' : World) : Prop :=
  ∃ g cap, e = .returned (.tuple #[.slice (some ⟨g, 0, none⟩) (n - pos) cap, .nilIface]) ∧ Ch w w' [K, F, Q] ∧ w.heap.size ≤ g ∧ g < w'.heap.size ∧ ∀ j, j < n - pos → w'.cell? ⟨g, j, none⟩ = some (.int .u8 (xs.getD (pos + j) 0))

theorem nilAheadK (K : Nat) (W : World) : (nilAhead 185 38 (.pointer (some ⟨K, 0, none⟩)) "Read").run Tryf.prog W = .ok (some false) W := by kernel_rfl

def lenOfV : Value → Nat
  | .slice _ l _ => l
  | _ => 0

theorem RA.start (w : World) (K F Q n c pos : Nat) (d : Option Addr) (xs : List Int) (h : Strm w K F Q d n c xs pos) (hp : pos ≤ n) :
    RA w ((w.alloc (.cells (blank 512) 5)).alloc (.cells blank4 22)) K F Q d n c xs pos w.heap.size 0 512 256 (w.heap.size + 1) 0 4 [] := by
  have hch : Ch w ((w.alloc (.cells (blank 512) 5)).alloc (.cells blank4 22)) [] := ((Ch.refl w _).alloc _ _).alloc _ _
  have hs1 : (w.alloc (.cells (blank 512) 5)).heap.size = w.heap.size + 1 := World.size_alloc _ _
  obtain ⟨i, r, v, hb, he⟩ := h
  refine ⟨hch.mono (by simp), ⟨i, r, v, hb.ch hch (by simp) (by simp) (by simp) (by simp), by simp [lenSum]; omega⟩, Nat.le_refl _, by rw [World.size_alloc, hs1]; omega, by omega, by unfold maxLen; omega, by omega, fun j hj => ?_, fun j => ?_, fun j hj => by omega, ?_, by omega, by rw [World.size_alloc, hs1]; omega, by omega, trivial, by omega, by omega, by simp [lenSum], by simp [lenSum], by simp [lenSum]; omega⟩
  · rw [cell_alloc, if_neg (by rw [hs1]; omega), cell_alloc, if_pos rfl]; exact blank_at 512 j hj
  · rw [frozen?_alloc_cells, frozen?_alloc_cells]; exact frozen_out _ _ _ (Nat.le_refl _)
  · have := World.ownsRow_made (base := w.heap.size) (e := 22) (size := 1) (w.alloc (.cells (blank 512) 5)) blank4 4 (by rw [hs1]; omega) (by unfold maxLen; omega) (by simp [blank4, size_madeCells])
    rw [hs1] at this
    exact this


theorem Ch.trans2 {a b c : World} {A A' : List Nat} (h : Ch a b A) (k : Ch b c A') (hA : ∀ x ∈ A', x ∈ A ∨ a.heap.size ≤ x) : Ch a c A :=
  ⟨k.os.trans h.os, k.tape.trans h.tape, k.output.trans h.output, Nat.le_trans h.size k.size, fun i hi hn => (k.block i (Nat.lt_of_lt_of_le hi h.size) (fun hm => (hA i hm).elim hn (fun h2 => by omega))).trans (h.block i hi hn), fun i j hi => (k.fz i j (Nat.lt_of_lt_of_le hi h.size)).trans (h.fz i j hi)⟩

theorem Ch.of_grown {w w' : World} {g : Nat} (h : w.grownBy w' (some g)) (hf : ∀ j, w'.frozen? ⟨g, j, none⟩ = w.frozen? ⟨g, j, none⟩) : Ch w w' [g] :=
  ⟨h.os, h.tape, h.output, h.size, fun b hb hn => h.block b hb (by simpa using hn), fun b j hb => by
    by_cases hbg : b = g
    · subst hbg; exact hf j
    · exact World.frozen?_of_block (w := w) (h.block b hb (by simpa using hbg))⟩

theorem owns_keep {w w' : World} {base : Nat} {e : TypeId} {size g n cap : Nat} {xs : List Value} (h : w.ownsRow base e size (.slice (some ⟨g, 0, none⟩) n cap) n xs) (hb : w'.heap[g]? = w.heap[g]?) : w'.ownsRow base e size (.slice (some ⟨g, 0, none⟩) n cap) n xs := by
  obtain ⟨h1, h2⟩ := h
  refine ⟨h1, ?_⟩
  rcases h2 with ⟨h2, _⟩ | ⟨g', cap', cur, hv, r1, r2, r3⟩
  · cases h2
  · obtain ⟨rfl, rfl⟩ : g = g' ∧ cap = cap' := by simpa using hv
    exact .inr ⟨g, cap, cur, rfl, r1, by rw [hb]; exact r2, r3⟩

theorem Parts.keep {w w' : World} {N G gc G' gc' : Nat} {xs : List Int} (hs : w.heap.size ≤ w'.heap.size) (hk : ∀ b, N ≤ b → b < w.heap.size → b ≠ G → b ≠ gc → w'.heap[b]? = w.heap[b]? ∧ b ≠ G' ∧ b ≠ gc') : ∀ (L : List (Nat × Nat × Nat)) (p : Nat), Parts w N G gc xs p L → Parts w' N G' gc' xs p L
  | [], _, _ => trivial
  | (g, l, c) :: L, p, ⟨⟨h0, h1, h2, h3, h4, h5⟩, hr⟩ => by
    obtain ⟨k1, k2, k3⟩ := hk g h1 h2 h3 h4
    exact ⟨⟨h0, h1, by omega, k2, k3, fun j hj => by rw [World.cell?_of_block (w := w) (a := ⟨g, j, none⟩) k1]; exact h5 j hj⟩, Parts.keep hs hk L (p + l) hr⟩
theorem Parts.snoc {w : World} {N G gc : Nat} {xs : List Int} {g l c : Nat} (h0 : 0 < l) (h1 : N ≤ g) (h2 : g < w.heap.size) (h3 : g ≠ G) (h4 : g ≠ gc) : ∀ (L : List (Nat × Nat × Nat)) (p : Nat), Parts w N G gc xs p L → (∀ j, j < l → w.cell? ⟨g, j, none⟩ = some (.int .u8 (xs.getD (p + lenSum L + j) 0))) → Parts w N G gc xs p (L ++ [(g, l, c)])
  | [], p, _, h5 => ⟨⟨h0, h1, h2, h3, h4, fun j hj => by have := h5 j hj; simpa [lenSum] using this⟩, trivial⟩
  | (g', l', c') :: L, p, ⟨hh, hr⟩, h5 => ⟨hh, Parts.snoc h0 h1 h2 h3 h4 L (p + l') hr (fun j hj => by have := h5 j hj; simp only [lenSum] at this; rwa [show p + (l' + lenSum L) + j = p + l' + lenSum L + j from by omega] at this)⟩

theorem RA.len {w wr : World} {K F Q : Nat} {d : Option Addr} {n c : Nat} {xs : List Int} {pos G l cp nx gc nc cc : Nat} {L : List (Nat × Nat × Nat)} (h : RA w wr K F Q d n c xs pos G l cp nx gc nc cc L) : L.length = nc := by
  have := h.own.1
  simpa using this

/-- The stream's blocks are old ones. -/
structure Olds (w : World) (K F Q n : Nat) (d : Option Addr) : Prop where
  k : K < w.heap.size
  f : F < w.heap.size
  q : Q < w.heap.size
  d : ∀ D off, d = some ⟨D, off, none⟩ → n = 0 ∨ D < w.heap.size
theorem Strm.olds {w : World} {K F Q : Nat} {d : Option Addr} {n c : Nat} {xs : List Int} {pos : Nat} (h : Strm w K F Q d n c xs pos) : Olds w K F Q n d := by
  obtain ⟨i, r, v, hb, _⟩ := h
  refine ⟨hb.lK, hb.lF, hb.lQ, fun D off hd => ?_⟩
  rcases hb.dat with h0 | ⟨D', off', hd', hl', _⟩
  · exact .inl h0
  · right
    rw [hd'] at hd
    simp at hd
    omega

theorem Strm.ch {w w' : World} {K F Q : Nat} {d : Option Addr} {n c : Nat} {xs : List Int} {pos : Nat} {A : List Nat} {N : Nat} (h : Strm w K F Q d n c xs pos) (hc : Ch w w' A) (hA : ∀ a ∈ A, N ≤ a) (hK : K < N) (hF : F < N) (hQ : Q < N) (hD : ∀ D off, d = some ⟨D, off, none⟩ → n = 0 ∨ D < N) : Strm w' K F Q d n c xs pos := by
  obtain ⟨i, r, v, hb, he⟩ := h
  by_cases hn0 : n = 0
  · subst hn0
    -- an empty text: the data's place does not matter
    have hb' : BSt w K F Q none 0 c xs i r v .nilIface ∨ True := .inr trivial
    refine ⟨i, r, v, ?_, he⟩
    have cK : ∀ j, w'.cell? ⟨K, j, none⟩ = w.cell? ⟨K, j, none⟩ := fun j => hc.cell hb.lK (fun hm => by have := hA _ hm; omega)
    have cF : ∀ j, w'.cell? ⟨F, j, none⟩ = w.cell? ⟨F, j, none⟩ := fun j => hc.cell hb.lF (fun hm => by have := hA _ hm; omega)
    have cQ : ∀ j, w'.cell? ⟨Q, j, none⟩ = w.cell? ⟨Q, j, none⟩ := fun j => hc.cell hb.lQ (fun hm => by have := hA _ hm; omega)
    have hs := hc.size
    exact ⟨by rw [cK]; exact hb.k0, by rw [cK]; exact hb.k1, by rw [cK]; exact hb.k2, by rw [cK]; exact hb.k3, by rw [cK]; exact hb.k4, by rw [cK]; exact hb.k5, by rw [cK]; exact hb.k6, fun j => by rw [hc.fz K j hb.lK]; exact hb.kf j, by rw [cQ]; exact hb.q0, by rw [cQ]; exact hb.q1, by rw [cQ]; exact hb.q2, fun j => by rw [hc.fz Q j hb.lQ]; exact hb.qf j, .inl rfl, fun j hj => by rw [cF]; exact hb.bh j hj, fun j => by rw [hc.fz F j hb.lF]; exact hb.bf j, fun j a b => by rw [cF]; exact hb.bv j a b, hb.rv, hb.v4, hb.iv, hb.inn, hb.nb, hb.kF, hb.kQ, hb.fQ, by have := hb.lK; omega, by have := hb.lF; omega, by have := hb.lQ; omega⟩
  · exact ⟨i, r, v, hb.ch hc (fun hm => by have := hA _ hm; omega) (fun hm => by have := hA _ hm; omega) (fun hm => by have := hA _ hm; omega) (fun D off hd hm => by
      have := hA _ hm
      rcases hD D off hd with h0 | h0
      · exact hn0 h0
      · omega), he⟩

/-- k bytes more in the chunk at hand. -/
theorem RA.read {w wr w2 : World} {K F Q : Nat} {d : Option Addr} {n c : Nat} {xs : List Int} {pos G l cp nx gc nc cc k : Nat} {L : List (Nat × Nat × Nat)} (ho : Olds w K F Q n d) (h : RA w wr K F Q d n c xs pos G l cp nx gc nc cc L) (hg : Got wr.drew w2 K F Q G l k (pos + lenSum L + l) d n c xs) (hk : l + k ≤ cp) (hn : pos + lenSum L + l + k ≤ n) :
    RA w w2 K F Q d n c xs pos G (l + k) cp nx gc nc cc L := by
  have e1 := ho.k
  have e2 := ho.f
  have e3 := ho.q
  have e4 := h.gN
  have e5 := h.gcN
  have e6 := h.gcG
  have hsz : w2.heap.size = wr.heap.size := hg.size
  have hgc : gc ∉ [K, F, Q, G] := by simp; omega
  have blk : ∀ b, w.heap.size ≤ b → b < wr.heap.size → b ≠ G → w2.heap[b]? = wr.heap[b]? := fun b h1 h2 h3 => hg.ch.block b h2 (by simp; omega)
  refine ⟨(h.ch.drew).trans2 hg.ch (by intro x hx; simp at hx ⊢; omega), by have := hg.st; rwa [show pos + lenSum L + l + k = pos + lenSum L + (l + k) from by omega] at this, e4, by rw [hsz]; exact h.gS, hk, h.cm, h.c256, fun j hj => ?_, fun j => by rw [hg.ch.fz G j h.gS]; exact h.fz j, fun j hj => ?_, owns_keep h.own (hg.ch.block gc h.gcS hgc), e5, by rw [hsz]; exact h.gcS, e6, Parts.keep (by omega) (fun b h1 h2 h3 h4 => ⟨blk b h1 h2 h3, h3, h4⟩) L pos h.parts, h.nx1, h.nx2, h.nx3, h.ncn, by omega⟩
  · by_cases hj2 : l ≤ j ∧ j < l + k
    · have := hg.inn (j - l) (by omega)
      rw [show l + (j - l) = j from by omega] at this
      rw [this]; rfl
    · rw [hg.out j (by omega)]; exact h.has j hj
  · by_cases hj2 : l ≤ j
    · have := hg.inn (j - l) (by omega)
      rw [show l + (j - l) = j from by omega, show pos + lenSum L + l + (j - l) = pos + lenSum L + j from by omega] at this
      exact this
    · rw [hg.out j (by omega)]; exact h.cells j (by omega)
end Go.Proofs.Qxb6616814aFmt
