import Derived.Test.Qxb6616814aFmtHelp
namespace Go.Proofs.Qxb6616814aFmt
open Go.ChangeShapes Go.WideShapes Go.ChangeAt Go.RowKit
set_option linter.unusedSimpArgs false
set_option linter.unusedVariables false

/-- The mark's three bytes. -/
def bom : List Int := [239, 187, 191]

set_option maxHeartbeats 1000000 in
theorem mark_any (w : World) : Calls Tryf.prog 9 #[] w fun e w' => SlRes w bom e w' := by
  go_enter Tryf.func9, Tryf.ntmps9
  go_wp2
  go_ret
  refine ⟨_, 3, rfl, ⟨.inr ⟨w.heap.size, 0, rfl, by simp, fun i hi => ?_⟩, fun j => ?_, by simp [bom]⟩, by simp [bom], (Ch.refl w []).alloc _ _⟩
  · rw [cell_alloc, if_pos rfl]
    simp [bom] at hi
    obtain rfl | rfl | rfl : i = 0 ∨ i = 1 ∨ i = 2 := by omega
    all_goals rfl
  · by_cases hj : j < 3
    · obtain rfl | rfl | rfl : j = 0 ∨ j = 1 ∨ j = 2 := by omega
      all_goals decide
    · rw [List.getD_eq_getElem?_getD, List.getElem?_eq_none (by simp [bom]; omega)]; decide

theorem ext_getD (xs ys : List Int) (hl : xs.length = ys.length) (h : ∀ i, i < xs.length → xs.getD i 0 = ys.getD i 0) : xs = ys := by
  refine List.ext_getElem hl fun i h1 h2 => ?_
  have := h i h1
  rwa [List.getD_eq_getElem?_getD, List.getD_eq_getElem?_getD, List.getElem?_eq_getElem h1, List.getElem?_eq_getElem h2] at this

/-- What zzB1Eq answers. -/
def EqRes (w : World) (xs ys : List Int) (e : Ending) (w' : World) : Prop := e = .returned (.bool (decide (xs = ys))) ∧ Ch w w' []

set_option maxHeartbeats 1000000 in
set_option maxRecDepth 100000 in
theorem eq_any (w : World) (a1 a2 : Option Addr) (c1 c2 : Nat) (xs ys : List Int) (hb1 : By w a1 xs) (hb2 : By w a2 ys) :
    Calls Tryf.prog 10 #[.slice a1 xs.length c1, .slice a2 ys.length c2] w fun e w' => EqRes w xs ys e w' := by
  have HN : Hid (∀ w', Ch w w' [] → ¬ xs = ys → EqRes w xs ys (.returned (.bool false)) w') := fun w' hc hn => ⟨by simp [hn], hc⟩
  have HY : Hid (∀ w', Ch w w' [] → xs = ys → EqRes w xs ys (.returned (.bool true)) w') := fun w' hc hn => ⟨by simp [hn], hc⟩
  have HL1 := hb1.len
  have HL2 := hb2.len
  have HC1 := hide hb1.row
  have HC2 := hide hb2.row
  clear hb1 hb2
  by_cases hl : xs.length = ys.length
  · have HX := hide (ext_getD xs ys hl)
    rw [← hl] at HC2 HL2 ⊢
    clear hl
    generalize hn1 : xs.length = n at *
    clear hn1
    go_enter Tryf.func10, Tryf.ntmps10
    go_wp2
    go_loopw [5] (fun v wr => ∃ k : Nat, k ≤ n ∧ v = .int .i64 k ∧ Ch w wr [] ∧ ∀ i, i < k → xs.getD i 0 = ys.getD i 0) (fun v _ => n - (intOf v).toNat)
    case atStart => exact ⟨0, by omega, rfl, Ch.refl w _, fun i hi => by omega⟩
    case round =>
      obtain ⟨k, hk, rfl, hch, hall⟩ := hrel
      have HH : Hid (Ch w wr []) := hch
      have HA := hide hall
      clear hall
      by_cases hkn : k < n
      · have hk' : (k : Int) < n := by omega
        obtain ⟨b, off, rfl, hb, hcell⟩ : ∃ b off, a1 = some ⟨b, off, none⟩ ∧ b < w.heap.size ∧ ∀ i, i < n → w.cell? ⟨b, off + i, none⟩ = some (.int .u8 (xs.getD i 0)) := by
          rcases HC1.out with h0 | h
          · omega
          · exact h
        obtain ⟨b2, off2, rfl, hb2, hcell2⟩ : ∃ b off, a2 = some ⟨b, off, none⟩ ∧ b < w.heap.size ∧ ∀ i, i < n → w.cell? ⟨b, off + i, none⟩ = some (.int .u8 (ys.getD i 0)) := by
          rcases HC2.out with h0 | h
          · omega
          · exact h
        have h1 : wr.cell? ⟨b, off + k, none⟩ = some (.int .u8 (xs.getD k 0)) := by rw [hch.cell hb (by simp)]; exact hcell k hkn
        have h2 : wr.cell? ⟨b2, off2 + k, none⟩ = some (.int .u8 (ys.getD k 0)) := by rw [hch.cell hb2 (by simp)]; exact hcell2 k hkn
        have HD : Hid (¬ xs.getD k 0 = ys.getD k 0 → ¬ xs = ys) := fun h e => h (by rw [e])
        have HD2 : Hid (xs.getD k 0 = ys.getD k 0 → ∀ i, i < k + 1 → xs.getD i 0 = ys.getD i 0) := fun h i hi => by
          by_cases hik : i = k
          · subst hik; exact h
          · exact HA.out i (by omega)
        generalize xs.getD k 0 = x at *
        generalize ys.getD k 0 = y at *
        clear hcell hcell2 hch
        by_cases hxy : x = y
        · subst hxy
          go_wp2_with fail
          go_quiet (fail)
          go_wp2
          go_roundw
          case rel => exact ⟨k + 1, by omega, by go_num, HH.out.drewN _, HD2.out trivial⟩
          case measure => simp [intOf]; omega
        · go_wp2_with fail
          go_quiet (fail)
          go_wp2
          go_ret
          exact HN.out _ (HH.out.drewN _) (HD.out hxy)
      · have hk' : ¬ (k : Int) < n := by omega
        have hke : k = n := by omega
        subst hke
        have hxy : xs = ys := HX.out HA.out
        have HF := hide (HY.out wr hch hxy)
        clear hch hxy
        go_wp2
        go_ret
        exact HF.out
  · have hne : ¬ xs = ys := fun e => hl (by rw [e])
    have HF := hide (HN.out w (Ch.refl w _) hne)
    clear hne
    generalize hn1 : xs.length = n at *
    generalize hm1 : ys.length = m at *
    clear hn1 hm1
    have hli : ¬ (n : Int) = (m : Int) := by omega
    go_enter Tryf.func10, Tryf.ntmps10
    go_wp2
    go_ret
    exact HF.out

set_option maxHeartbeats 1000000 in
set_option maxRecDepth 100000 in
theorem opens_any (w : World) (a : Option Addr) (c : Nat) (xs : List Int) (hb : By w a xs) :
    Calls Tryf.prog 11 #[.slice a xs.length c] w fun e w' => e = .returned (.bool (marked xs xs.length)) ∧ w' = w := by
  have hln := hb.len
  by_cases h3 : 3 ≤ xs.length
  · obtain ⟨b, off, rfl, hb1, hcell⟩ : ∃ b off, a = some ⟨b, off, none⟩ ∧ b < w.heap.size ∧ ∀ i, i < xs.length → w.cell? ⟨b, off + i, none⟩ = some (.int .u8 (xs.getD i 0)) := by
      rcases hb.row with h0 | h
      · omega
      · exact h
    have e0 : w.cell? ⟨b, off, none⟩ = some (.int .u8 (xs.getD 0 0)) := hcell 0 (by omega)
    have e1 := hcell 1 (by omega)
    have e2 := hcell 2 (by omega)
    have hmk : marked xs xs.length = (xs.getD 0 0 == 239 && xs.getD 1 0 == 187 && xs.getD 2 0 == 191) := by simp [marked, h3]
    rw [hmk]
    clear hmk hcell hb
    generalize xs.getD 0 0 = x0 at *
    generalize xs.getD 1 0 = x1 at *
    generalize xs.getD 2 0 = x2 at *
    generalize xs.length = n at *
    have i0 : (0 : Int) < n := by omega
    have i1 : (1 : Int) < n := by omega
    have i2 : (2 : Int) < n := by omega
    have i3 : (3 : Int) ≤ n := by omega
    by_cases q0 : x0 = 239
    · by_cases q1 : x1 = 187
      · by_cases q2 : x2 = 191
        · go_enter Tryf.func11, Tryf.ntmps11
          go_wp2
          go_ret
          simp [q0, q1, q2]
        · go_enter Tryf.func11, Tryf.ntmps11
          go_wp2
          go_ret
          simp [q0, q1, q2]
      · go_enter Tryf.func11, Tryf.ntmps11
        go_wp2
        go_ret
        simp [q0, q1]
    · go_enter Tryf.func11, Tryf.ntmps11
      go_wp2
      go_ret
      simp [q0]
  · have hmk : marked xs xs.length = false := by simp [marked, h3]
    rw [hmk]
    clear hmk hb
    generalize xs.length = n at *
    have i3 : ¬ (3 : Int) ≤ n := by omega
    go_enter Tryf.func11, Tryf.ntmps11
    go_wp2
    go_ret
    exact ⟨rfl, rfl⟩

/-- The end is a Bool; where it is true, p holds. -/
def OkRes (e : Ending) (p : Prop) : Prop := ∃ r : Bool, e = .returned (.bool r) ∧ (r = true → p)
theorem OkRes.no {p : Prop} : OkRes (.returned (.bool false)) p := ⟨false, rfl, fun h => by cases h⟩
theorem OkRes.yes {p : Prop} (h : p) : OkRes (.returned (.bool true)) p := ⟨true, rfl, fun _ => h⟩

set_option maxHeartbeats 1000000 in
theorem bytes1_any (w : World) (a : Option Addr) (n c : Nat) (hn : n ≤ maxLen) :
    Calls Tryf.prog 5 #[.slice a n c] w fun e w' => OkRes e (n ≤ 1048576) ∧ w' = w := by
  unfold maxLen at hn
  go_enter Tryf.func5, Tryf.ntmps5
  go_wp2
  all_goals go_ret
  all_goals first | exact ⟨OkRes.no, rfl⟩ | exact ⟨OkRes.yes (by omega), rfl⟩

set_option maxHeartbeats 1000000 in
theorem bytes2_any (w : World) (a a2 : Option Addr) (n c n2 c2 : Nat) (hn : n ≤ maxLen) (hn2 : n2 ≤ maxLen) :
    Calls Tryf.prog 12 #[.slice a n c, .slice a2 n2 c2] w fun e w' => OkRes e (n + n2 ≤ 1048576) ∧ w' = w := by
  unfold maxLen at hn hn2
  go_enter Tryf.func12, Tryf.ntmps12
  go_wp2
  all_goals go_ret
  all_goals first | exact ⟨OkRes.no, rfl⟩ | exact ⟨OkRes.yes (by omega), rfl⟩
end Go.Proofs.Qxb6616814aFmt
