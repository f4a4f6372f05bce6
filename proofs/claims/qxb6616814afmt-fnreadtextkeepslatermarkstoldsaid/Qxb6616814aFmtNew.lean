import Derived.Test.Qxb6616814aFmtGot
import Derived.Laws.MakeOwn
namespace Go.Proofs.Qxb6616814aFmt
open Go.ChangeShapes Go.WideShapes Go.ChangeAt Go.RowKit
set_option linter.unusedSimpArgs false
set_option linter.unusedVariables false

@[go_sem] theorem assert34 (v : Value) (w : World) : (Instr.typeAssert (.iface 34 v) 37 38 true).run Tryf.prog w = .ok (.tuple #[.pointer none, .bool false]) w := by kernel_rfl

/-- What 'make' lays. -/
def blank (n : Nat) : Array Value := madeCells (Value.int .u8 0).cells (n * 1)
theorem size_blank (n : Nat) : (blank n).size = n := by simp [blank, size_madeCells]
theorem blank_at (n i : Nat) (h : i < n) : ((blank n)[i]?).isSome = true := by
  rw [Array.getElem?_eq_getElem (by rw [size_blank]; exact h)]; rfl
theorem make22 (l n : Nat) (hl : l ≤ n) (hn : n ≤ 4194304) (w : World) : (Instr.makeSlice 22 (.int .i64 l) (.int .i64 n)).run Tryf.prog w = .ok (.slice (some ⟨w.heap.size, 0, none⟩) l n) (w.alloc (.cells (blank n) 5)) := by
  obtain ⟨i, hi, hb, hs, hz⟩ := info5
  have h := run_make (P := Tryf.prog) w 22 5 i (.int .u8 0) Tryf.underlying22 hi hz .i64 .i64 l n (by omega) (by omega) (by rw [hb]; omega) (by omega)
  simp only [Int.toNat_natCast, hs] at h
  exact h

set_option maxHeartbeats 2000000 in
set_option maxRecDepth 100000 in
theorem newReader_any (w : World) (Q n c : Nat) (d : Option Addr) (xs : List Int) (q0 : w.cell? ⟨Q, 0, none⟩ = some (.slice d n c)) (q1 : w.cell? ⟨Q, 1, none⟩ = some (.int .i64 0)) (x2 : Value) (q2 : w.cell? ⟨Q, 2, none⟩ = some x2) (qf : ∀ j, w.frozen? ⟨Q, j, none⟩ = false) (lQ : Q < w.heap.size) (hn : n ≤ 1073741824)
    (hd : n = 0 ∨ ∃ D off, d = some ⟨D, off, none⟩ ∧ D < w.heap.size ∧ D ≠ Q ∧ n ≤ c ∧ ∀ j, j < n → w.cell? ⟨D, off + j, none⟩ = some (.int .u8 (xs.getD j 0))) :
    Calls Tryf.prog 15 #[.iface 34 (.pointer (some ⟨Q, 0, none⟩))] w fun e w' => e = .returned (.pointer (some ⟨w.heap.size, 0, none⟩)) ∧ Ch w w' [] ∧ w'.heap.size = w.heap.size + 2 ∧ BSt w' w.heap.size (w.heap.size + 1) Q d n c xs 0 0 0 .nilIface := by
  have HQ : Hid (w.cell? ⟨Q, 0, none⟩ = some (.slice d n c) ∧ w.cell? ⟨Q, 1, none⟩ = some (.int .i64 0) ∧ w.cell? ⟨Q, 2, none⟩ = some x2 ∧ ∀ j, w.frozen? ⟨Q, j, none⟩ = false) := ⟨q0, q1, q2, qf⟩
  have HD : Hid (n = 0 ∨ ∃ D off, d = some ⟨D, off, none⟩ ∧ D < w.heap.size ∧ D ≠ Q ∧ n ≤ c ∧ ∀ j, j < n → w.cell? ⟨D, off + j, none⟩ = some (.int .u8 (xs.getD j 0))) := hd
  clear q0 q1 q2 qf hd
  have hm : ∀ w : World, (Instr.makeSlice 22 (.int .i64 4096) (.int .i64 4096)).run Tryf.prog w = .ok (.slice (some ⟨w.heap.size, 0, none⟩) 4096 4096) (w.alloc (.cells (blank 4096) 5)) := make22 4096 4096 (by omega) (by omega)
  go_enter Tryf.func15, Tryf.ntmps15
  go_wp2
  go_ret
  refine ⟨rfl, ((Ch.refl w _).alloc _ _).alloc _ _, by rw [World.size_alloc, World.size_alloc], ?_⟩
  obtain ⟨q0, q1, q2, qf⟩ := HQ.out
  obtain ⟨W, hW⟩ : ∃ W, W = ((w.alloc (Obj.cells #[Value.slice (some ⟨w.heap.size + 1, 0, none⟩) 4096 4096, Value.iface 34 (Value.pointer (some ⟨Q, 0, none⟩)), Value.int IntKind.i64 0, Value.int IntKind.i64 0, Value.nilIface, Value.int IntKind.i64 (-1), Value.int IntKind.i64 (-1)] 53)).alloc (Obj.cells (blank 4096) 5)) := ⟨_, rfl⟩
  rw [← hW]
  have cK : ∀ j, W.cell? ⟨w.heap.size, j, none⟩ = (#[Value.slice (some ⟨w.heap.size + 1, 0, none⟩) 4096 4096, Value.iface 34 (Value.pointer (some ⟨Q, 0, none⟩)), Value.int IntKind.i64 0, Value.int IntKind.i64 0, Value.nilIface, Value.int IntKind.i64 (-1), Value.int IntKind.i64 (-1)] : Array Value)[j]? := fun j => by
    rw [hW, cell_alloc, if_neg (by rw [World.size_alloc]; omega), cell_alloc, if_pos rfl]
  have cF : ∀ j, W.cell? ⟨w.heap.size + 1, j, none⟩ = (blank 4096)[j]? := fun j => by
    rw [hW, cell_alloc, if_pos (by rw [World.size_alloc])]
  have cO : ∀ b j, b < w.heap.size → W.cell? ⟨b, j, none⟩ = w.cell? ⟨b, j, none⟩ := fun b j hb => by
    rw [hW, cell_alloc, if_neg (by rw [World.size_alloc]; omega), cell_alloc, if_neg (by omega)]
  have fz : ∀ a, W.frozen? a = w.frozen? a := fun a => by rw [hW, frozen?_alloc_cells, frozen?_alloc_cells]
  have sz : W.heap.size = w.heap.size + 2 := by rw [hW, World.size_alloc, World.size_alloc]
  clear hW
  refine ⟨by rw [cK]; rfl, by rw [cK]; rfl, by rw [cK]; rfl, by rw [cK]; rfl, by rw [cK]; rfl, ⟨_, by rw [cK]; rfl⟩, ⟨_, by rw [cK]; rfl⟩, fun j => by rw [fz]; exact frozen_out _ _ _ (Nat.le_refl _), by rw [cO _ _ lQ]; exact q0, by rw [cO _ _ lQ]; exact q1, ⟨_, by rw [cO _ _ lQ]; exact q2⟩, fun j => by rw [fz]; exact qf j, ?_, fun j hj => by rw [cF]; exact blank_at 4096 j hj, fun j => by rw [fz]; exact frozen_out _ _ _ (by omega), fun j h1 h2 => by omega, by omega, by omega, by omega, by omega, hn, by omega, by omega, by omega, by omega, by omega, by omega⟩
  rcases HD.out with h0 | ⟨D, off, hd, hl, n1, hc, hcells⟩
  · exact .inl h0
  · exact .inr ⟨D, off, hd, by omega, by omega, by omega, n1, hc, fun j hj => by rw [cO _ _ hl]; exact hcells j hj⟩
end Go.Proofs.Qxb6616814aFmt
