import Derived.Test.Qxb6616814aFmtText
namespace Go.Proofs.Qxb6616814aFmt
open Go.ChangeShapes Go.WideShapes Go.ChangeAt Go.RowKit
set_option linter.unusedSimpArgs false
set_option linter.unusedVariables false

@[go_sem] theorem eql22 (w : World) (a : Option Addr) (l c : Nat) : (binOp .eql 22 (.slice a l c) (.slice none 0 0)).run Tryf.prog w = .ok (.bool a.isNone) w :=
  Lib.run_eql_slice_nil w 22 5 a l c 0 0 Tryf.underlying22

/-- The new row, in block N: n cells, the first k of them laid. -/
structure Cop (wr : World) (N n : Nat) (zs : List Int) (k : Nat) : Prop where
  has : ∀ i, i < n → ∃ v, wr.cell? ⟨N, i, none⟩ = some v
  done : ∀ i, i < k → i < n → wr.cell? ⟨N, i, none⟩ = some (.int .u8 (zs.getD i 0))
  fz : ∀ i, wr.frozen? ⟨N, i, none⟩ = false
theorem Cop.start (w : World) (n : Nat) (zs : List Int) : Cop (w.alloc (.cells (blank n) 5)) w.heap.size n zs 0 := by
  refine ⟨fun i hi => ?_, fun i h => by omega, fun i => ?_⟩
  · rw [cell_alloc, if_pos rfl]; exact Option.isSome_iff_exists.1 (blank_at n i hi)
  · rw [frozen?_alloc_cells]; exact frozen_out _ _ _ (Nat.le_refl _)
theorem Cop.step {wr : World} {N n : Nat} {zs : List Int} {k : Nat} (h : Cop wr N n zs k) {x : Int} (hx : zs.getD k 0 = x) : Cop (wr.setCell ⟨N, k, none⟩ (.int .u8 x)) N n zs (k + 1) := by
  refine ⟨fun i hi => ?_, fun i h1 hi => ?_, fun i => by rw [World.frozen?_setCell]; exact h.fz i⟩
  · obtain ⟨v, hv⟩ := h.has i hi
    rw [cell_set]; split
    · exact ⟨_, by rw [hv]; rfl⟩
    · exact ⟨v, hv⟩
  · rw [cell_set]
    by_cases hik : i = k
    · subst hik
      obtain ⟨v, hv⟩ := h.has i hi
      rw [if_pos ⟨rfl, rfl⟩, hv, hx]; rfl
    · rw [if_neg (by omega)]; exact h.done i (by omega) hi

/-- A new slice of bytes. -/
def SlRes (w : World) (xs : List Int) (e : Ending) (w' : World) : Prop :=
  ∃ a c, e = .returned (.slice a xs.length c) ∧ By w' a xs ∧ xs.length ≤ c ∧ Ch w w' []
theorem Cop.res {w wr : World} {zs : List Int} (h : Cop wr w.heap.size zs.length zs zs.length) (hc : Ch w wr []) (hs : w.heap.size < wr.heap.size) (hb : ∀ j, 0 ≤ zs.getD j 0 ∧ zs.getD j 0 ≤ 255) (hl : zs.length ≤ 2097152) : SlRes w zs (.returned (.slice (some ⟨w.heap.size, 0, none⟩) zs.length zs.length)) wr :=
  ⟨_, _, rfl, ⟨.inr ⟨w.heap.size, 0, rfl, hs, fun i hi => by rw [Nat.zero_add]; exact h.done i hi hi⟩, hb, hl⟩, Nat.le_refl _, hc⟩

set_option maxHeartbeats 1000000 in
set_option maxRecDepth 100000 in
theorem clone_any (w : World) (a : Option Addr) (c : Nat) (xs : List Int) (hb : By w a xs) :
    Calls Tryf.prog 6 #[.slice a xs.length c] w fun e w' => SlRes w xs e w' := by
  have HB := hide hb
  cases a with
  | none =>
    have h0 : xs = [] := by
      rcases hb.row with h0 | ⟨b, off, ha, _⟩
      · exact List.eq_nil_of_length_eq_zero h0
      · cases ha
    subst h0
    clear hb
    go_enter Tryf.func6, Tryf.ntmps6
    go_wp2
    go_ret
    exact ⟨none, 0, rfl, HB.out, Nat.le_refl _, Ch.refl _ _⟩
  | some x =>
    have HC : Hid (xs.length = 0 ∨ ∃ b off, x = ⟨b, off, none⟩ ∧ b < w.heap.size ∧ ∀ i, i < xs.length → w.cell? ⟨b, off + i, none⟩ = some (.int .u8 (xs.getD i 0))) := by
      rcases hb.row with h0 | ⟨b, off, ha, h⟩
      · exact .inl h0
      · exact .inr ⟨b, off, by simpa using ha, h⟩
    have hln := hb.len
    clear hb
    obtain ⟨n, hn⟩ : ∃ n, xs.length = n := ⟨_, rfl⟩
    have HL := hide hn
    rw [hn] at HC hln ⊢
    clear hn
    have hm := make22 n n (by omega) (by omega)
    have HS : Hid (∀ w : World, Cop (w.alloc (.cells (blank n) 5)) w.heap.size n xs 0) := fun w => Cop.start w n _
    go_enter Tryf.func6, Tryf.ntmps6
    go_wp2
    go_loopw [4] (fun v wr => ∃ k : Nat, k ≤ n ∧ v = .int .i64 k ∧ Ch w wr [] ∧ w.heap.size < wr.heap.size ∧ Cop wr w.heap.size n xs k) (fun v _ => n - (intOf v).toNat)
    case atStart => exact ⟨0, by omega, rfl, (Ch.refl w _).alloc _ _, by simp, HS.out w⟩
    case round =>
      clear hm
      obtain ⟨k, hk, rfl, hch, hsz, hcop⟩ := hrel
      have HH : Hid (Ch w wr []) := hch
      have HP : Hid (Cop wr w.heap.size n xs k) := hcop
      by_cases hkn : k < n
      · have hk' : (k : Int) < n := by omega
        obtain ⟨b, off, rfl, hb, hcell⟩ : ∃ b off, x = ⟨b, off, none⟩ ∧ b < w.heap.size ∧ ∀ i, i < n → w.cell? ⟨b, off + i, none⟩ = some (.int .u8 (xs.getD i 0)) := by
          rcases HC.out with h0 | h
          · omega
          · exact h
        have h1 : wr.cell? ⟨b, off + k, none⟩ = some (.int .u8 (xs.getD k 0)) := by rw [hch.cell hb (by simp)]; exact hcell k hkn
        obtain ⟨v, h2⟩ := hcop.has k hkn
        have h3 := hcop.fz k
        generalize hx : xs.getD k 0 = y at *
        have HX : Hid (xs.getD k 0 = y) := hx
        clear hx hch hcop hcell
        go_wp2
        go_roundw
        case rel => exact ⟨k + 1, by omega, by go_num, HH.out.set (by right; exact Nat.le_refl _), by rw [World.size_setCell]; exact hsz, HP.out.step HX.out⟩
        case measure => simp [intOf]; omega
      · have hk' : ¬ (k : Int) < n := by omega
        have hke : k = n := by omega
        subst hke
        clear hch hcop
        have HF : Hid (SlRes w xs (.returned (.slice (some ⟨w.heap.size, 0, none⟩) k k)) wr) := by
          have hp := HP.out
          have hl := HL.out
          subst hl
          exact hp.res HH.out hsz HB.out.byt HB.out.len
        go_wp2
        go_ret
        exact HF.out

set_option maxHeartbeats 1000000 in
set_option maxRecDepth 100000 in
theorem cat_any (w : World) (a1 a2 : Option Addr) (c1 c2 : Nat) (xs ys : List Int) (hb1 : By w a1 xs) (hb2 : By w a2 ys) (hl : xs.length + ys.length ≤ 2097152) :
    Calls Tryf.prog 8 #[.slice a1 xs.length c1, .slice a2 ys.length c2] w fun e w' => SlRes w (xs ++ ys) e w' := by
  have HB1 := hide hb1
  have HB2 := hide hb2
  have HG1 : Hid (∀ i, i < xs.length → (xs ++ ys).getD i 0 = xs.getD i 0) := fun i hi => by simp [List.getD_eq_getElem?_getD, List.getElem?_append_left hi]
  have HG2 : Hid (∀ i, (xs ++ ys).getD (xs.length + i) 0 = ys.getD i 0) := fun i => by simp [List.getD_eq_getElem?_getD, List.getElem?_append_right]
  have HL : Hid ((xs ++ ys).length = xs.length + ys.length) := List.length_append
  have HBY : Hid (∀ j, 0 ≤ (xs ++ ys).getD j 0 ∧ (xs ++ ys).getD j 0 ≤ 255) := fun j => by
    by_cases hj : j < xs.length
    · rw [HG1.out j hj]; exact hb1.byt j
    · have := HG2.out (j - xs.length)
      rw [show xs.length + (j - xs.length) = j from by omega] at this
      rw [this]; exact hb2.byt _
  have HC1 := hide hb1.row
  have HC2 := hide hb2.row
  clear hb1 hb2 HB1 HB2
  generalize hzs : xs ++ ys = zs at *
  clear hzs
  generalize hn1 : xs.length = n at *
  generalize hm1 : ys.length = m at *
  clear hn1 hm1
  have hm : ∀ w : World, (Instr.makeSlice 22 (.int .i64 ((n : Int) + (m : Int))) (.int .i64 ((n : Int) + (m : Int)))).run Tryf.prog w = .ok (.slice (some ⟨w.heap.size, 0, none⟩) (n + m) (n + m)) (w.alloc (.cells (blank (n + m)) 5)) := fun w => by
    rw [← Int.natCast_add]
    exact make22 (n + m) (n + m) (by omega) (by omega) w
  have HS : Hid (∀ w : World, Cop (w.alloc (.cells (blank (n + m)) 5)) w.heap.size (n + m) zs 0) := fun w => Cop.start w (n + m) _
  go_enter Tryf.func8, Tryf.ntmps8
  go_wp2
  go_loopw [6] (fun v wr => ∃ k : Nat, k ≤ n ∧ v = .int .i64 k ∧ Ch w wr [] ∧ w.heap.size < wr.heap.size ∧ Cop wr w.heap.size (n + m) zs k) (fun v _ => n - (intOf v).toNat)
  case atStart => exact ⟨0, by omega, rfl, (Ch.refl w _).alloc _ _, by simp, HS.out w⟩
  case round =>
    clear hm HS
    obtain ⟨k, hk, rfl, hch, hsz, hcop⟩ := hrel
    have HH : Hid (Ch w wr []) := hch
    have HP : Hid (Cop wr w.heap.size (n + m) zs k) := hcop
    by_cases hkn : k < n
    · have hk' : (k : Int) < n := by omega
      have hk3 : (k : Int) < (n : Int) + (m : Int) := by omega
      obtain ⟨b, off, rfl, hb, hcell⟩ : ∃ b off, a1 = some ⟨b, off, none⟩ ∧ b < w.heap.size ∧ ∀ i, i < n → w.cell? ⟨b, off + i, none⟩ = some (.int .u8 (xs.getD i 0)) := by
        rcases HC1.out with h0 | h
        · omega
        · exact h
      have h1 : wr.cell? ⟨b, off + k, none⟩ = some (.int .u8 (xs.getD k 0)) := by rw [hch.cell hb (by simp)]; exact hcell k hkn
      obtain ⟨v, h2⟩ := hcop.has k (by omega)
      have h3 := hcop.fz k
      have hx := HG1.out k hkn
      generalize xs.getD k 0 = y at *
      have HX : Hid (zs.getD k 0 = y) := hx
      clear hx hch hcop hcell
      go_wp2
      go_roundw
      case rel => exact ⟨k + 1, by omega, by go_num, HH.out.set (by right; exact Nat.le_refl _), by rw [World.size_setCell]; exact hsz, HP.out.step HX.out⟩
      case measure => simp [intOf]; omega
    · have hk' : ¬ (k : Int) < n := by omega
      have hke : k = n := by omega
      subst hke
      clear hch hcop
      go_wp2
      go_loopw [7] (fun v wr => ∃ j : Nat, j ≤ m ∧ v = .int .i64 j ∧ Ch w wr [] ∧ w.heap.size < wr.heap.size ∧ Cop wr w.heap.size (k + m) zs (k + j)) (fun v _ => m - (intOf v).toNat)
      case atStart => exact ⟨0, by omega, rfl, HH.out, hsz, HP.out⟩
      case round =>
        clear HH HP hsz
        obtain ⟨j, hj, rfl, hch, hsz, hcop⟩ := hrel
        have HH : Hid (Ch w wr []) := hch
        have HP : Hid (Cop wr w.heap.size (k + m) zs (k + j)) := hcop
        by_cases hjm : j < m
        · have hj' : (j : Int) < m := by omega
          have hj3 : (k : Int) + (j : Int) < (k : Int) + (m : Int) := by omega
          obtain ⟨b, off, rfl, hb, hcell⟩ : ∃ b off, a2 = some ⟨b, off, none⟩ ∧ b < w.heap.size ∧ ∀ i, i < m → w.cell? ⟨b, off + i, none⟩ = some (.int .u8 (ys.getD i 0)) := by
            rcases HC2.out with h0 | h
            · omega
            · exact h
          have h1 : wr.cell? ⟨b, off + j, none⟩ = some (.int .u8 (ys.getD j 0)) := by rw [hch.cell hb (by simp)]; exact hcell j hjm
          obtain ⟨v, h2⟩ := hcop.has (k + j) (by omega)
          have h3 := hcop.fz (k + j)
          have hx := HG2.out j
          generalize ys.getD j 0 = y at *
          have HX : Hid (zs.getD (k + j) 0 = y) := hx
          have hw1 : IntKind.i64.wrap ((k : Int) + (j : Int)) = (k : Int) + (j : Int) := by rw [IntKind.wrap_i64]; omega
          clear hx hch hcop hcell
          go_wp2
          go_roundw
          case rel => exact ⟨j + 1, by omega, by go_num, HH.out.set (by right; exact Nat.le_refl _), by rw [World.size_setCell]; exact hsz, HP.out.step HX.out⟩
          case measure => simp [intOf]; omega
        · have hj' : ¬ (j : Int) < m := by omega
          have hje : j = m := by omega
          subst hje
          clear hch hcop
          have HF : Hid (SlRes w zs (.returned (.slice (some ⟨w.heap.size, 0, none⟩) (k + j) (k + j))) wr) := by
            have hp := HP.out
            have hl2 := HL.out
            rw [← hl2] at hp ⊢
            exact hp.res HH.out hsz HBY.out (by omega)
          go_wp2
          go_ret
          exact HF.out
end Go.Proofs.Qxb6616814aFmt
