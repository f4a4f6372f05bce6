import Derived.Test.Qxb6616814aFmtRows
import Derived.WalkKit
import Derived.ProofKit
import Derived.Handy
import Derived.Outline
import Derived.Below
import Derived.Deep.QuietTactic
import Derived.BigQuiet
import Derived.WalkSpells
import Derived.LaidEql
import Derived.Laws.IdiomCopy
import Derived.Deep.RegionHeld3
namespace Go.Proofs.Qxb6616814aFmt
open Go.ChangeShapes Go.WideShapes Go.ChangeAt Go.RowKit
set_option linter.unusedSimpArgs false
set_option linter.unusedVariables false

theorem cell_set (w : World) (b o b' o' : Nat) (v : Value) : (w.setCell ⟨b, o, none⟩ v).cell? ⟨b', o', none⟩ = if b = b' ∧ o = o' then (w.cell? ⟨b', o', none⟩).map (fun _ => v) else w.cell? ⟨b', o', none⟩ := by
  by_cases h : b = b' ∧ o = o'
  · obtain ⟨rfl, rfl⟩ := h
    rw [if_pos ⟨rfl, rfl⟩]
    cases hc : w.cell? ⟨b, o, none⟩ with
    | some u => rw [World.cell?_setCell_same (h := hc)]; rfl
    | none =>
      by_cases hc' : (w.setCell ⟨b, o, none⟩ v).cell? ⟨b, o, none⟩ = none
      · rw [hc']; rfl
      · exfalso
        revert hc hc'
        simp only [World.cell?, World.setCell, Array.getElem?_modify]
        cases w.heap[b]? with
        | none => simp
        | some x => cases x <;> simp
  · rw [if_neg h, World.cell?_setCell_other (h := by simpa using h)]
theorem cell_alloc (w : World) (c : Array Value) (t : TypeId) (b o : Nat) : (w.alloc (.cells c t)).cell? ⟨b, o, none⟩ = if b = w.heap.size then c[o]? else w.cell? ⟨b, o, none⟩ := by
  by_cases h : b = w.heap.size
  · subst h; rw [if_pos rfl, World.cell?_alloc_new]
  · rw [if_neg h, World.cell?_alloc_old (h := by simpa using h)]
theorem frozen_out (w : World) (b i : Nat) (h : w.heap.size ≤ b) : w.frozen? ⟨b, i, none⟩ = false := by
  simp [World.frozen?, Array.getElem?_eq_none h]
theorem below_drewN (B : Nat) (w : World) (m : Nat) : Below B w (w.drewN m) := ⟨rfl, rfl, rfl, Nat.le_refl _, fun _ _ => rfl⟩

/-- Only blocks of A, and new ones, have turned; no mark has. -/
structure Ch (w w' : World) (A : List Nat) : Prop where
  os : w'.os = w.os
  tape : w'.tape = w.tape
  output : w'.output = w.output
  size : w.heap.size ≤ w'.heap.size
  block : ∀ b, b < w.heap.size → b ∉ A → w'.heap[b]? = w.heap[b]?
  fz : ∀ b i, b < w.heap.size → w'.frozen? ⟨b, i, none⟩ = w.frozen? ⟨b, i, none⟩

theorem Ch.refl (w : World) (A : List Nat) : Ch w w A := ⟨rfl, rfl, rfl, Nat.le_refl _, fun _ _ _ => rfl, fun _ _ _ => rfl⟩
theorem Ch.trans {a b c : World} {A : List Nat} (h : Ch a b A) (k : Ch b c A) : Ch a c A :=
  ⟨k.os.trans h.os, k.tape.trans h.tape, k.output.trans h.output, Nat.le_trans h.size k.size, fun i hi hn => (k.block i (Nat.lt_of_lt_of_le hi h.size) hn).trans (h.block i hi hn), fun i j hi => (k.fz i j (Nat.lt_of_lt_of_le hi h.size)).trans (h.fz i j hi)⟩
theorem Ch.drewN {a w : World} {A : List Nat} (h : Ch a w A) (m : Nat) : Ch a (w.drewN m) A := ⟨h.os, h.tape, h.output, h.size, h.block, h.fz⟩
theorem Ch.drew {a w : World} {A : List Nat} (h : Ch a w A) : Ch a w.drew A := ⟨h.os, h.tape, h.output, h.size, h.block, h.fz⟩
theorem Ch.set {a w : World} {A : List Nat} (h : Ch a w A) {p : Addr} {u : Value} (hp : p.block ∈ A ∨ a.heap.size ≤ p.block) : Ch a (w.setCell p u) A :=
  ⟨h.os, h.tape, h.output, by rw [World.size_setCell]; exact h.size, fun b hb hn => by
    rw [Below.heap_setCell _ _ _ _ (by rintro rfl; exact hp.elim (fun hp => hn hp) (fun hp => by omega))]; exact h.block b hb hn, fun b i hb => by rw [World.frozen?_setCell]; exact h.fz b i hb⟩
theorem Ch.alloc {a w : World} {A : List Nat} (h : Ch a w A) (c : Array Value) (t : TypeId) : Ch a (w.alloc (.cells c t)) A :=
  ⟨h.os, h.tape, h.output, by rw [World.size_alloc]; have := h.size; omega, fun b hb hn => by
    rw [Below.heap_alloc _ _ _ (Nat.lt_of_lt_of_le hb h.size)]; exact h.block b hb hn, fun b i hb => by rw [frozen?_alloc_cells]; exact h.fz b i hb⟩
theorem Ch.setCells {a : World} {A : List Nat} {b : Nat} (hb : b ∈ A ∨ a.heap.size ≤ b) : ∀ (vs : List Value) (o : Nat) (w : World), Ch a w A → Ch a (w.setCells b o vs) A
  | [], o, w, h => h
  | v :: vs, o, w, h => by
    show Ch a ((w.setCell ⟨b, o, none⟩ v).setCells b (o + 1) vs) A
    exact Ch.setCells hb vs (o + 1) _ (h.set hb)
theorem Ch.cell {w w' : World} {A : List Nat} (h : Ch w w' A) {b i : Nat} (hb : b < w.heap.size) (hn : b ∉ A) : w'.cell? ⟨b, i, none⟩ = w.cell? ⟨b, i, none⟩ := World.cell?_of_block (w := w) (h.block b hb hn)
theorem Ch.below {w w' : World} {A : List Nat} (h : Ch w w' A) {L : Nat} (hL : ∀ b ∈ A, L ≤ b) (hs : L ≤ w.heap.size) : Below L w w' :=
  ⟨h.os, h.tape, h.output, h.size, fun k hk => h.block k (by omega) (fun hm => by have := hL k hm; omega)⟩
theorem Ch.mono {w w' : World} {A A' : List Nat} (h : Ch w w' A) (hA : ∀ b ∈ A, b ∈ A' ∨ w.heap.size ≤ b) : Ch w w' A' :=
  ⟨h.os, h.tape, h.output, h.size, fun b hb hn => h.block b hb (fun hm => (hA b hm).elim (fun h1 => hn h1) (fun h1 => by omega)), h.fz⟩

/-- A slice of bytes: empty, or a row of numbers at an address. -/
def Row8 (w : World) (a : Option Addr) (n : Nat) (zs : List Int) : Prop :=
  n = 0 ∨ ∃ b off, a = some ⟨b, off, none⟩ ∧ b < w.heap.size ∧ ∀ i, i < n → w.cell? ⟨b, off + i, none⟩ = some (.int .u8 (zs.getD i 0))

/-- What stands in the program's variable io.EOF. -/
def EofAt (w : World) (a : Addr) : Prop := w.cell? ⟨0, 0, none⟩ = some (.iface 60 (.pointer (some a)))

theorem info60 : ∃ i, Tryf.prog.info? 60 = some i ∧ i.comparable = true := by
  have h1 : (Tryf.prog.info? 60).map (fun i => i.comparable) = some true := by kernel_rfl
  cases hi : Tryf.prog.info? 60 with
  | none => rw [hi] at h1; cases h1
  | some i => rw [hi] at h1; simp at h1; exact ⟨i, rfl, h1⟩
theorem info62 : ∃ i, Tryf.prog.info? 62 = some i := by
  have h1 : (Tryf.prog.info? 62).isSome = true := by kernel_rfl
  exact Option.isSome_iff_exists.1 h1
@[go_sem] theorem eqlEof (w : World) (a : Addr) : (binOp .eql 31 (.iface 60 (.pointer (some a))) (.iface 60 (.pointer (some a)))).run Tryf.prog w = .ok (.bool true) w := by
  obtain ⟨i, hi, hc⟩ := info60
  obtain ⟨j, hj⟩ := info62
  exact run_eql_iface_ptr_same w a Tryf.underlying31 Tryf.underlying60 hi hc hj
@[go_sem] theorem eqlNilEof (w : World) (v : Value) : (binOp .eql 31 .nilIface (.iface 60 v)).run Tryf.prog w = .ok (.bool false) w :=
  run_eql_iface_nil_left w 60 v Tryf.underlying31

theorem info5 : ∃ i, Tryf.prog.info? 5 = some i ∧ i.bytes = 1 ∧ i.size = 1 ∧ i.zero = some (.int .u8 0) := by
  have h1 : (Tryf.prog.info? 5).map (fun i => (i.bytes, i.size)) = some (1, 1) := by kernel_rfl
  have h3 : (Tryf.prog.info? 5).bind (·.zero) = some (.int .u8 0) := by kernel_rfl
  cases hi : Tryf.prog.info? 5 with
  | none => rw [hi] at h1; cases h1
  | some i =>
    rw [hi] at h1 h3
    simp at h1 h3
    exact ⟨i, rfl, h1.1, h1.2, h3⟩

/-- k bytes of xs from i on, as values. -/
def vals (xs : List Int) (i k : Nat) : List Value := (List.range k).map fun j => Value.int .u8 (xs.getD (i + j) 0)
theorem vals_length (xs : List Int) (i k : Nat) : (vals xs i k).length = k := by simp [vals]
theorem vals_get (xs : List Int) (i k j : Nat) (v : Value) (h : (vals xs i k)[j]? = some v) : j < k ∧ v = .int .u8 (xs.getD (i + j) 0) := by
  by_cases hj : j < k
  · refine ⟨hj, ?_⟩
    simp [vals, hj] at h
    rw [← h, List.getD_eq_getElem?_getD]
  · rw [List.getElem?_eq_none (by simp [vals]; omega)] at h; cases h

/-- 'copy' of bytes whose source is known, into cells that are there. -/
theorem copy22 (W : World) (G o m cp D off s sc i k : Nat) (xs : List Int) (hk : k = Nat.min s m) (hsrc : ∀ j, j < k → W.cell? ⟨D, off + j, none⟩ = some (.int .u8 (xs.getD (i + j) 0)))
    (hdst : ∀ j, j < k → (W.cell? ⟨G, o + j, none⟩).isSome = true) (hfz : ∀ j, W.frozen? ⟨G, j, none⟩ = false) :
    (Builtin.copy_ #[22, 22] 3 #[.slice (some ⟨G, o, none⟩) m cp, .slice (some ⟨D, off, none⟩) s sc]).run Tryf.prog W = .ok (.int .i64 k) (W.setCells G o (vals xs i k)) := by
  obtain ⟨t, hi, _, hs, _⟩ := info5
  have h := run_copy_cells (P := Tryf.prog) W 22 22 3 5 G o m cp ⟨D, off, none⟩ s sc (vals xs i k) Tryf.underlying22 (by rw [hi, Option.map_some, hs]) (by rw [vals_length]; exact hk)
    (fun j v hj => by
      obtain ⟨h1, rfl⟩ := vals_get xs i k j v hj
      rw [show (⟨D, off, none⟩ : Addr).add j = ⟨D, off + j, none⟩ from by unfold Addr.add; split <;> simp_all]
      exact hsrc j h1)
    (fun j hj => hdst j (by rw [vals_length] at hj; exact hj)) (fun j _ => hfz _) (by
      intro v hv
      simp [vals] at hv
      obtain ⟨_, _, rfl⟩ := hv
      rfl)
  rw [h, vals_length]
  rfl

theorem cells_in (W : World) (G o i k : Nat) (xs : List Int) (hdst : ∀ j, j < k → (W.cell? ⟨G, o + j, none⟩).isSome = true) (j : Nat) (hj : j < k) :
    (W.setCells G o (vals xs i k)).cell? ⟨G, o + j, none⟩ = some (.int .u8 (xs.getD (i + j) 0)) := by
  rw [World.cell?_setCells_in G (vals xs i k) o W (fun j h => hdst j (by rw [vals_length] at h; exact h)) j (by rw [vals_length]; exact hj)]
  simp [vals]
theorem cells_out (W : World) (G o i k : Nat) (xs : List Int) (b j : Nat) (h : b ≠ G ∨ j < o ∨ o + k ≤ j) :
    (W.setCells G o (vals xs i k)).cell? ⟨b, j, none⟩ = W.cell? ⟨b, j, none⟩ := by
  apply World.cell?_setCells_out
  intro h1 _
  rw [vals_length]
  simp only at h1 ⊢
  rcases h with h | h
  · exact absurd h1 h
  · exact h
theorem frozen_cells (W : World) (G o : Nat) (vs : List Value) (a : Addr) : (W.setCells G o vs).frozen? a = W.frozen? a := World.frozen?_setCells G vs o W a
theorem size_setCells (G : Nat) : ∀ (vs : List Value) (o : Nat) (W : World), (W.setCells G o vs).heap.size = W.heap.size
  | [], _, _ => rfl
  | v :: vs, o, W => by
    show ((W.setCell ⟨G, o, none⟩ v).setCells G (o + 1) vs).heap.size = _
    rw [size_setCells G vs (o + 1), World.size_setCell]
end Go.Proofs.Qxb6616814aFmt
