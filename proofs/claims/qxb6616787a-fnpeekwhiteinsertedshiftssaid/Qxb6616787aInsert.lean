import Derived.Test.Qxb6616787aLawFirst
namespace Go.Proofs.Qxb6616787a
open Go.ChangeShapes Go.WideShapes Go.ChangeAt Go.RowKit
set_option linter.unusedSimpArgs false
set_option linter.unusedVariables false

/-- The first n of zs with x put in at place k. -/
def ins (zs : List Int) (n k : Nat) (x : Int) : List Int := (List.range (n + 1)).map fun i => if i < k then zs.getD i 0 else if i = k then x else zs.getD (i - 1) 0
theorem ins_at (zs : List Int) (n k : Nat) (x : Int) (i : Nat) (h : i ≤ n) : (ins zs n k x).getD i 0 = if i < k then zs.getD i 0 else if i = k then x else zs.getD (i - 1) 0 := by
  unfold ins
  rw [List.getD_eq_getElem?_getD, List.getElem?_map, List.getElem?_range (by omega)]
  rfl

set_option maxHeartbeats 1000000 in
set_option maxRecDepth 100000 in
theorem insert_pos (w : World) (b off n c k : Nat) (x : Int) (zs : List Int) (hn : n ≤ 1048576) (hk : k ≤ n) (hb : b < w.heap.size)
    (hc : ∀ i, i < n → w.cell? ⟨b, off + i, none⟩ = some (.int .u8 (zs.getD i 0))) :
    Calls Try.prog 15 #[.slice (some ⟨b, off, none⟩) n c, .int .i64 k, .int .u8 x] w fun e w' => e = .returned (.slice (some ⟨w.heap.size, 0, none⟩) (n + 1) (n + 1)) ∧ Below w.heap.size w w' ∧ w.heap.size < w'.heap.size ∧ Head8 w' w.heap.size (n + 1) (ins zs n k x) := by
  have HC : Hid (∀ i, i < n → w.cell? ⟨b, off + i, none⟩ = some (.int .u8 (zs.getD i 0))) := hc
  clear hc
  have HY : Hid (∀ i, i ≤ n → (ins zs n k x).getD i 0 = if i < k then zs.getD i 0 else if i = k then x else zs.getD (i - 1) 0) := ins_at zs n k x
  have hm : ∀ w : World, (Instr.makeSlice 22 (.int .i64 ((n : Int) + 1)) (.int .i64 ((n : Int) + 1))).run Try.prog w = .ok (.slice (some ⟨w.heap.size, 0, none⟩) (n + 1) (n + 1)) (w.alloc (.cells (blank (n + 1)) 5)) := fun w => by
    rw [show ((n : Int) + 1) = ((n + 1 : Nat) : Int) from by omega]
    exact make22 (n + 1) (by omega) w
  have HS : Hid (∀ w : World, Cop (w.alloc (.cells (blank (n + 1)) 5)) w.heap.size (n + 1) (ins zs n k x) 0) := fun w => Cop.start w (n + 1) _
  generalize ins zs n k x = ys at *
  go_enter Try.func15, Try.ntmps15
  go_wp2
  go_loopw [8] (fun v wr => ∃ i : Nat, i ≤ k ∧ v = .int .i64 i ∧ Below w.heap.size w wr ∧ w.heap.size < wr.heap.size ∧ Cop wr w.heap.size (n + 1) ys i) (fun v _ => k - (intOf v).toNat)
  case atStart => exact ⟨0, by omega, rfl, (Below.refl _ _).alloc (Nat.le_refl _) _, by simp, HS.out w⟩
  case round =>
    clear hm HS
    obtain ⟨i, hi, rfl, hbel, hsz, hcop⟩ := hrel
    have HB : Hid (Below w.heap.size w wr) := hbel
    have HP : Hid (Cop wr w.heap.size (n + 1) ys i) := hcop
    by_cases hik : i < k
    · have hi' : (i : Int) < k := by omega
      have hi'' : (i : Int) < n := by omega
      have hi3 : (i : Int) < (n : Int) + 1 := by omega
      have h1 : wr.cell? ⟨b, off + i, none⟩ = some (.int .u8 (zs.getD i 0)) := by rw [hbel.cell (p := ⟨b, off + i, none⟩) hb]; exact HC.out i (by omega)
      obtain ⟨v, h2⟩ := hcop.has i (by omega)
      have h3 := hcop.fz i
      have hy : ys.getD i 0 = zs.getD i 0 := by rw [HY.out i (by omega), if_pos hik]
      generalize zs.getD i 0 = z at *
      have HYi : Hid (ys.getD i 0 = z) := hy
      clear hy hbel hcop
      go_wp2
      go_roundw
      case rel => exact ⟨i + 1, by omega, by go_num, HB.out.setCell (Nat.le_refl _) _, by rw [World.size_setCell]; exact hsz, HP.out.step HYi.out⟩
      case measure => simp [intOf]; omega
    · have hi' : ¬ (i : Int) < k := by omega
      have hieq : i = k := by omega
      subst hieq
      have hk3 : (i : Int) < (n : Int) + 1 := by omega
      obtain ⟨v, h2⟩ := hcop.has i (by omega)
      have h3 := hcop.fz i
      have HYk : Hid (ys.getD i 0 = x) := by rw [HY.out i hk, if_neg (by omega), if_pos rfl]; rfl
      clear hbel hcop
      go_wp2
      go_loopw [9] (fun v wr => ∃ j : Nat, i ≤ j ∧ j ≤ n ∧ v = .int .i64 j ∧ Below w.heap.size w wr ∧ w.heap.size < wr.heap.size ∧ Cop wr w.heap.size (n + 1) ys (j + 1)) (fun v _ => n - (intOf v).toNat)
      case atStart => exact ⟨i, Nat.le_refl _, hk, rfl, HB.out.setCell (Nat.le_refl _) _, by rw [World.size_setCell]; exact hsz, HP.out.step HYk.out⟩
      case round =>
        clear HB HP h2 h3 hsz
        obtain ⟨j, hj1, hj2, rfl, hbel, hsz, hcop⟩ := hrel
        have HB : Hid (Below w.heap.size w wr) := hbel
        have HP : Hid (Cop wr w.heap.size (n + 1) ys (j + 1)) := hcop
        by_cases hjn : j < n
        · have hj' : (j : Int) < n := by omega
          have hj'' : (j : Int) + 1 < (n : Int) + 1 := by omega
          have h1 : wr.cell? ⟨b, off + j, none⟩ = some (.int .u8 (zs.getD j 0)) := by rw [hbel.cell (p := ⟨b, off + j, none⟩) hb]; exact HC.out j hjn
          obtain ⟨v, h2⟩ := hcop.has (j + 1) (by omega)
          have h3 := hcop.fz (j + 1)
          have hy : ys.getD (j + 1) 0 = zs.getD j 0 := by rw [HY.out (j + 1) (by omega), if_neg (by omega), if_neg (by omega), Nat.add_sub_cancel]
          generalize zs.getD j 0 = z at *
          have HYi : Hid (ys.getD (j + 1) 0 = z) := hy
          clear hy hbel hcop
          go_wp2
          go_roundw
          case rel => exact ⟨j + 1, by omega, by omega, by go_num, HB.out.setCell (Nat.le_refl _) _, by rw [World.size_setCell]; exact hsz, HP.out.step HYi.out⟩
          case measure => simp [intOf]; omega
        · have hj' : ¬ (j : Int) < n := by omega
          clear hbel hcop
          go_wp2
          go_ret
          exact ⟨rfl, HB.out, hsz, HP.out.all (by omega)⟩
end Go.Proofs.Qxb6616787a
