import Derived.Test.Qxb6616787aPeek
namespace Go.Proofs.Qxb6616787a
open Go.ChangeShapes Go.WideShapes Go.ChangeAt Go.RowKit
set_option linter.unusedSimpArgs false
set_option linter.unusedVariables false

@[go_sem] theorem eql22 (w : World) (a : Option Addr) (l c : Nat) : (binOp .eql 22 (.slice a l c) (.slice none 0 0)).run Try.prog w = .ok (.bool a.isNone) w :=
  Lib.run_eql_slice_nil w 22 5 a l c 0 0 Try.underlying22

/-- What 'make' lays. -/
def blank (n : Nat) : Array Value := madeCells (Value.int .u8 0).cells (n * 1)
theorem info5 : ∃ i, Try.prog.info? 5 = some i ∧ i.bytes = 1 ∧ i.size = 1 ∧ i.zero = some (.int .u8 0) := by
  have h1 : (Try.prog.info? 5).map (fun i => (i.bytes, i.size)) = some (1, 1) := by kernel_rfl
  have h3 : (Try.prog.info? 5).bind (·.zero) = some (.int .u8 0) := by kernel_rfl
  cases hi : Try.prog.info? 5 with
  | none => rw [hi] at h1; cases h1
  | some i =>
    rw [hi] at h1 h3
    simp at h1 h3
    exact ⟨i, rfl, h1.1, h1.2, h3⟩
theorem make22 (n : Nat) (hn : n ≤ 1048577) (w : World) : (Instr.makeSlice 22 (.int .i64 n) (.int .i64 n)).run Try.prog w = .ok (.slice (some ⟨w.heap.size, 0, none⟩) n n) (w.alloc (.cells (blank n) 5)) := by
  obtain ⟨i, hi, hb, hs, hz⟩ := info5
  have h := run_make (P := Try.prog) w 22 5 i (.int .u8 0) Try.underlying22 hi hz .i64 .i64 n n (by omega) (by omega) (by rw [hb]; omega) (by omega)
  simp only [Int.toNat_natCast, hs] at h
  exact h
theorem size_blank (n : Nat) : (blank n).size = n := by simp [blank, size_madeCells]
theorem blank_at (n i : Nat) (h : i < n) : ∃ v, (blank n)[i]? = some v := ⟨(blank n)[i]'(by rw [size_blank]; exact h), Array.getElem?_eq_getElem _⟩

/-- The new row, in block N: n cells, the first k of them copied. -/
structure Cop (wr : World) (N n : Nat) (zs : List Int) (k : Nat) : Prop where
  has : ∀ i, i < n → ∃ v, wr.cell? ⟨N, i, none⟩ = some v
  done : ∀ i, i < k → i < n → wr.cell? ⟨N, i, none⟩ = some (.int .u8 (zs.getD i 0))
  fz : ∀ i, wr.frozen? ⟨N, i, none⟩ = false

theorem Cop.start (w : World) (n : Nat) (zs : List Int) : Cop (w.alloc (.cells (blank n) 5)) w.heap.size n zs 0 := by
  refine ⟨fun i hi => ?_, fun i h => by omega, fun i => ?_⟩
  · rw [cell_alloc, if_pos rfl]; exact blank_at n i hi
  · rw [frozen?_alloc_cells]; exact frozen_out _ _ _ (Nat.le_refl _)

theorem Cop.step {wr : World} {N n : Nat} {zs : List Int} {k : Nat} (h : Cop wr N n zs k) {x : Int} (hx : zs.getD k 0 = x) : Cop (wr.setCell ⟨N, k, none⟩ (.int .u8 x)) N n zs (k + 1) := by
  refine ⟨fun i hi => ?_, fun i h1 hi => ?_, fun i => by rw [World.frozen?_setCell]; exact h.fz i⟩
  · obtain ⟨v, hv⟩ := h.has i hi
    rw [cell_set]; split
    · exact ⟨_, by rw [hv]; rfl⟩
    · exact ⟨v, hv⟩
  · rw [cell_set]
    by_cases hik : i = k
    · subst hik
      obtain ⟨v, hv⟩ := h.has i hi
      rw [if_pos ⟨rfl, rfl⟩, hv, hx]; rfl
    · rw [if_neg (by omega)]; exact h.done i (by omega) hi

/-- A row of bytes from the head of a block. -/
def Head8 (w : World) (G n : Nat) (zs : List Int) : Prop := ∀ i, i < n → w.cell? ⟨G, 0 + i, none⟩ = some (.int .u8 (zs.getD i 0))
theorem Head8.below {w w' : World} {G n L : Nat} {zs : List Int} (h : Head8 w G n zs) (hb : Below L w w') (hG : G < L) : Head8 w' G n zs := fun i hi => by
  rw [hb.cell (p := ⟨G, 0 + i, none⟩) hG]; exact h i hi
theorem Cop.all {wr : World} {N n : Nat} {zs : List Int} {k : Nat} (h : Cop wr N n zs k) (hk : n ≤ k) : Head8 wr N n zs := fun i hi => by
  rw [Nat.zero_add]; exact h.done i (by omega) hi

set_option maxHeartbeats 1000000 in
set_option maxRecDepth 100000 in
theorem clone_pos (w : World) (b off n c : Nat) (zs : List Int) (hn : n ≤ 1048576) (hb : b < w.heap.size)
    (hc : ∀ i, i < n → w.cell? ⟨b, off + i, none⟩ = some (.int .u8 (zs.getD i 0))) :
    Calls Try.prog 11 #[.slice (some ⟨b, off, none⟩) n c] w fun e w' => e = .returned (.slice (some ⟨w.heap.size, 0, none⟩) n n) ∧ Below w.heap.size w w' ∧ w.heap.size < w'.heap.size ∧ Head8 w' w.heap.size n zs := by
  have HC : Hid (∀ i, i < n → w.cell? ⟨b, off + i, none⟩ = some (.int .u8 (zs.getD i 0))) := hc
  clear hc
  have hm := make22 n (by omega)
  go_enter Try.func11, Try.ntmps11
  go_wp2
  go_loopw [4] (fun v wr => ∃ k : Nat, k ≤ n ∧ v = .int .i64 k ∧ Below w.heap.size w wr ∧ w.heap.size < wr.heap.size ∧ Cop wr w.heap.size n zs k) (fun v _ => n - (intOf v).toNat)
  case atStart => exact ⟨0, by omega, rfl, (Below.refl _ _).alloc (Nat.le_refl _) _, by simp, Cop.start w n zs⟩
  case round =>
    clear hm
    obtain ⟨k, hk, rfl, hbel, hsz, hcop⟩ := hrel
    have HB : Hid (Below w.heap.size w wr) := hbel
    have HP : Hid (Cop wr w.heap.size n zs k) := hcop
    by_cases hkn : k < n
    · have hk' : (k : Int) < n := by omega
      have h1 : wr.cell? ⟨b, off + k, none⟩ = some (.int .u8 (zs.getD k 0)) := by rw [hbel.cell (p := ⟨b, off + k, none⟩) hb]; exact HC.out k hkn
      obtain ⟨v, h2⟩ := hcop.has k hkn
      have h3 := hcop.fz k
      generalize hx : zs.getD k 0 = x at *
      have HX : Hid (zs.getD k 0 = x) := hx
      clear hx hbel hcop
      go_wp2
      go_roundw
      case rel => exact ⟨k + 1, by omega, by go_num, HB.out.setCell (Nat.le_refl _) _, by rw [World.size_setCell]; exact hsz, HP.out.step HX.out⟩
      case measure => simp [intOf]; omega
    · have hk' : ¬ (k : Int) < n := by omega
      clear hbel hcop
      go_wp2
      go_ret
      exact ⟨rfl, HB.out, hsz, HP.out.all (by omega)⟩

set_option maxHeartbeats 1000000 in
theorem clone_nil (w : World) : Calls Try.prog 11 #[.slice none 0 0] w fun e w' => e = .returned (.slice none 0 0) ∧ w' = w := by
  go_enter Try.func11, Try.ntmps11
  go_wp2
  go_ret
  exact ⟨rfl, rfl⟩

set_option maxHeartbeats 1000000 in
set_option maxRecDepth 100000 in
theorem clone_empty (w : World) (x : Addr) (c : Nat) :
    Calls Try.prog 11 #[.slice (some x) 0 c] w fun e w' => e = .returned (.slice (some ⟨w.heap.size, 0, none⟩) 0 0) ∧ Below w.heap.size w w' := by
  have hm : ∀ w : World, (Instr.makeSlice 22 (.int .i64 0) (.int .i64 0)).run Try.prog w = .ok (.slice (some ⟨w.heap.size, 0, none⟩) 0 0) (w.alloc (.cells (blank 0) 5)) := make22 0 (by omega)
  go_enter Try.func11, Try.ntmps11
  go_wp2
  go_loopw [4] (fun v wr => v = .int .i64 0 ∧ Below w.heap.size w wr) (fun v _ => 0)
  case atStart => exact ⟨rfl, (Below.refl _ _).alloc (Nat.le_refl _) _⟩
  case round =>
    clear hm
    obtain ⟨rfl, hbel⟩ := hrel
    have HB : Hid (Below w.heap.size w wr) := hbel
    clear hbel
    go_wp2
    go_ret
    exact ⟨rfl, HB.out⟩

/-- An empty slice: what the clone is, is empty too. -/
def EmptySlice (e : Ending) : Prop := ∃ d c, e = .returned (.slice d 0 c)
theorem clone_zero (w : World) (a : Option Addr) (c : Nat) (h : a = none → c = 0) :
    Calls Try.prog 11 #[.slice a 0 c] w fun e w' => EmptySlice e ∧ Below w.heap.size w w' := by
  cases a with
  | none =>
    obtain rfl := h rfl
    exact (clone_nil w).mono fun e w' ⟨he, hw⟩ => ⟨⟨_, _, he⟩, by rw [hw]; exact Below.refl _ _⟩
  | some x => exact (clone_empty w x c).mono fun e w' ⟨he, hw⟩ => ⟨⟨_, _, he⟩, hw⟩

/-- The end is a Bool; where it is true, p holds. -/
def OkRes (e : Ending) (p : Prop) : Prop := ∃ r : Bool, e = .returned (.bool r) ∧ (r = true → p)
theorem OkRes.no {p : Prop} : OkRes (.returned (.bool false)) p := ⟨false, rfl, fun h => by cases h⟩
theorem OkRes.yes {p : Prop} (h : p) : OkRes (.returned (.bool true)) p := ⟨true, rfl, fun _ => h⟩

set_option maxHeartbeats 1000000 in
theorem bytes3_any (w : World) (x : Int) (a : Option Addr) (n c : Nat) (hn : n ≤ maxLen) :
    Calls Try.prog 10 #[.slice a n c, .int .i64 x] w fun e w' => OkRes e (n ≤ 1048576) ∧ w' = w := by
  unfold maxLen at hn
  go_enter Try.func10, Try.ntmps10
  go_wp2
  all_goals go_ret
  all_goals first | exact ⟨OkRes.no, rfl⟩ | exact ⟨OkRes.yes (by omega), rfl⟩

set_option maxHeartbeats 1000000 in
theorem bytes4_any (w : World) (x y z : Int) (a : Option Addr) (n c : Nat) (hn : n ≤ maxLen) :
    Calls Try.prog 14 #[.slice a n c, .int .i64 x, .int .i64 y, .int .u8 z] w fun e w' => OkRes e (n ≤ 1048576) ∧ w' = w := by
  unfold maxLen at hn
  go_enter Try.func14, Try.ntmps14
  go_wp2
  all_goals go_ret
  all_goals first | exact ⟨OkRes.no, rfl⟩ | exact ⟨OkRes.yes (by omega), rfl⟩
end Go.Proofs.Qxb6616787a
