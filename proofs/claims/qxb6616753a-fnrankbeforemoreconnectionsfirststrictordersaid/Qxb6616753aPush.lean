import Derived.Test.Qxb6616753aRows
import Derived.WalkKit
import Derived.ProofKit
import Derived.Handy
import Derived.Outline
import Derived.Deep.QuietTactic
import Derived.BigQuiet
import Derived.Below
namespace Go.Proofs.Qxb6616753a
open Go.ChangeShapes Go.WideShapes Go.ChangeAt Go.RowKit
set_option linter.unusedSimpArgs false
set_option linter.unusedVariables false

/-- Blocks that a step leaves alone. -/
structure Blk (w w' : World) (k : Nat) : Prop where
  b : w'.heap[k]? = w.heap[k]?
theorem Blk.refl (w : World) (k : Nat) : Blk w w k := ⟨rfl⟩
theorem Blk.set {w w' : World} {k : Nat} (h : Blk w w' k) {p : Addr} {u : Value} (hk : k ≠ p.block) : Blk w (w'.setCell p u) k :=
  ⟨(Below.heap_setCell w' p u k hk).trans h.b⟩
theorem Blk.alloc {w w' : World} {k : Nat} (h : Blk w w' k) {o : Obj} (hk : k < w'.heap.size) : Blk w (w'.alloc o) k :=
  ⟨(Below.heap_alloc w' o k hk).trans h.b⟩

theorem cell_set (w : World) (b o b' o' : Nat) (v : Value) : (w.setCell ⟨b, o, none⟩ v).cell? ⟨b', o', none⟩ = if b = b' ∧ o = o' then (w.cell? ⟨b', o', none⟩).map (fun _ => v) else w.cell? ⟨b', o', none⟩ := by
  by_cases h : b = b' ∧ o = o'
  · obtain ⟨rfl, rfl⟩ := h
    rw [if_pos ⟨rfl, rfl⟩]
    cases hc : w.cell? ⟨b, o, none⟩ with
    | some u => rw [World.cell?_setCell_same (h := hc)]; rfl
    | none =>
      by_cases hc' : (w.setCell ⟨b, o, none⟩ v).cell? ⟨b, o, none⟩ = none
      · rw [hc']; rfl
      · exfalso
        revert hc hc'
        simp only [World.cell?, World.setCell, Array.getElem?_modify]
        cases w.heap[b]? with
        | none => simp
        | some x => cases x <;> simp
  · rw [if_neg h, World.cell?_setCell_other (h := by simpa using h)]
theorem cell_alloc (w : World) (c : Array Value) (t : TypeId) (b o : Nat) : (w.alloc (.cells c t)).cell? ⟨b, o, none⟩ = if b = w.heap.size then c[o]? else w.cell? ⟨b, o, none⟩ := by
  by_cases h : b = w.heap.size
  · subst h; rw [if_pos rfl, World.cell?_alloc_new]
  · rw [if_neg h, World.cell?_alloc_old (h := by simpa using h)]

structure Push (w w' : World) (B o En : Nat) : Prop where
  size : w'.heap.size = w.heap.size + 1
  below : Below 0 w w'
  frozen : ∀ a, w'.frozen? a = w.frozen? a
  block : ∀ k, k < w.heap.size → k ≠ B → k ≠ En → Blk w w' k
  cellB : ∀ i, i ≠ o → i ≠ o + 1 → i ≠ o + 4 → w'.cell? ⟨B, i, none⟩ = w.cell? ⟨B, i, none⟩
  cellE : ∀ i, i ≠ 0 → En ≠ B → w'.cell? ⟨En, i, none⟩ = w.cell? ⟨En, i, none⟩

set_option maxHeartbeats 1000000 in
theorem push_first (B o : Nat) (v : Value) (w : World) (x1 x4 : Value) (hB : B < w.heap.size)
    (c0 : w.cell? ⟨B, o, none⟩ = some (.pointer none)) (c1 : w.cell? ⟨B, o + 1, none⟩ = some x1) (c4 : w.cell? ⟨B, o + 4, none⟩ = some x4)
    (f0 : w.frozen? ⟨B, o, none⟩ = false) (f1 : w.frozen? ⟨B, o + 1, none⟩ = false) (f4 : w.frozen? ⟨B, o + 4, none⟩ = false) :
    Calls Try.prog 18 #[.pointer (some ⟨B, o, none⟩), .iface 62 v] w fun e w' =>
      (e = .returned (.pointer (some ⟨w.heap.size, 0, none⟩))) ∧ Push w w' B o B ∧
      w'.cell? ⟨B, o, none⟩ = some (.pointer (some ⟨w.heap.size, 0, none⟩)) ∧ w'.cell? ⟨B, o + 1, none⟩ = some (.pointer (some ⟨w.heap.size, 0, none⟩)) ∧
      w'.cell? ⟨B, o + 4, none⟩ = some (.int .i64 1) ∧ w'.cell? ⟨w.heap.size, 0, none⟩ = some (.pointer (some ⟨B, o, none⟩)) ∧
      w'.cell? ⟨w.heap.size, 3, none⟩ = some (.iface 62 v) := by
  go_enter Try.func18, Try.ntmps18
  go_wp2
  go_ret
  refine ⟨rfl, ⟨?_, ?_, ?_, ?_, ?_, ?_⟩, ?_, ?_, ?_, ?_, ?_⟩
  · simp only [World.size_alloc, World.size_setCell]
  · go_grown
  · intro a; simp only [frozen?_alloc_cells, World.frozen?_setCell]
  · intro k hk h1 h2
    repeat' first | with_reducible exact Blk.refl _ _ | with_reducible refine Blk.set ?_ ?_ | with_reducible refine Blk.alloc ?_ ?_ | (simp only [World.size_setCell]; omega) | exact h1
  · intro i h0 h1 h4
    have hne : ¬ B = w.heap.size := by omega
    simp [cell_set, cell_alloc, hne, Ne.symm h0, Ne.symm h1, Ne.symm h4]
  · intro i h0 h1; exact absurd rfl h1
  all_goals
    have hne : ¬ B = w.heap.size := by omega
    simp [cell_set, cell_alloc, hne, c0, c1, c4]

set_option maxHeartbeats 1000000 in
theorem push_next (B o E : Nat) (v : Value) (n : Int) (w : World) (hB : B < w.heap.size) (hE : E < w.heap.size) (hEB : E ≠ B) (hn : 0 ≤ n) (hn2 : n ≤ 1000000000) (q : Addr)
    (c0 : w.cell? ⟨B, o, none⟩ = some (.pointer (some q))) (c1 : w.cell? ⟨B, o + 1, none⟩ = some (.pointer (some ⟨E, 0, none⟩))) (c4 : w.cell? ⟨B, o + 4, none⟩ = some (.int .i64 n))
    (e0 : w.cell? ⟨E, 0, none⟩ = some (.pointer (some ⟨B, o, none⟩)))
    (f1 : w.frozen? ⟨B, o + 1, none⟩ = false) (f4 : w.frozen? ⟨B, o + 4, none⟩ = false) (fe : w.frozen? ⟨E, 0, none⟩ = false) :
    Calls Try.prog 18 #[.pointer (some ⟨B, o, none⟩), .iface 62 v] w fun e w' =>
      (e = .returned (.pointer (some ⟨w.heap.size, 0, none⟩))) ∧ Push w w' B o E ∧
      w'.cell? ⟨B, o, none⟩ = some (.pointer (some q)) ∧ w'.cell? ⟨B, o + 1, none⟩ = some (.pointer (some ⟨w.heap.size, 0, none⟩)) ∧
      w'.cell? ⟨B, o + 4, none⟩ = some (.int .i64 (n + 1)) ∧ w'.cell? ⟨w.heap.size, 0, none⟩ = some (.pointer (some ⟨B, o, none⟩)) ∧
      w'.cell? ⟨w.heap.size, 3, none⟩ = some (.iface 62 v) := by
  have hEs : E ≠ w.heap.size := by omega
  have hBs : B ≠ w.heap.size := by omega
  have hBE : B ≠ E := fun h => hEB h.symm
  go_enter Try.func18, Try.ntmps18
  go_wp2
  go_ret
  refine ⟨rfl, ⟨?_, ?_, ?_, ?_, ?_, ?_⟩, ?_, ?_, ?_, ?_, ?_⟩
  · simp only [World.size_alloc, World.size_setCell]
  · go_grown
  · intro a; simp only [frozen?_alloc_cells, World.frozen?_setCell]
  · intro k hk h1 h2
    repeat' first | with_reducible exact Blk.refl _ _ | with_reducible refine Blk.set ?_ ?_ | with_reducible refine Blk.alloc ?_ ?_ | (simp only [World.size_setCell]; omega) | exact h1 | exact h2
  · intro i h0 h1 h4
    simp [cell_set, cell_alloc, hBs, hEB, Ne.symm h0, Ne.symm h1, Ne.symm h4]
  · intro i h0 h1
    simp [cell_set, cell_alloc, hEs, hBE, Ne.symm h0]
  all_goals
    simp [cell_set, cell_alloc, hEs, hBs, hEB, hBE, c0, c1, c4]
end Go.Proofs.Qxb6616753a
