import Derived.Test.Qxb6616814aFmtBase
namespace Go.Proofs.Qxb6616814aFmt
open Go.ChangeShapes Go.WideShapes Go.ChangeAt Go.RowKit
set_option linter.unusedSimpArgs false
set_option linter.unusedVariables false

set_option maxHeartbeats 1000000 in
set_option maxRecDepth 100000 in
theorem read45_eof (w : World) (Q n c i : Nat) (d p : Option Addr) (m cp : Nat) (ea : Addr) (hE : EofAt w ea) (hi : n ≤ i) (hi2 : i ≤ 1073741824)
    (q0 : w.cell? ⟨Q, 0, none⟩ = some (.slice d n c)) (q1 : w.cell? ⟨Q, 1, none⟩ = some (.int .i64 i)) :
    Calls Tryf.prog 45 #[.pointer (some ⟨Q, 0, none⟩), .slice p m cp] w fun e w' => e = .returned (.tuple #[.int .i64 0, .iface 60 (.pointer (some ea))]) ∧ ∃ q, w' = w.drewN q := by
  have hE' : w.cell? ⟨0, 0, none⟩ = some (.iface 60 (.pointer (some ea))) := hE
  clear hE
  have hd : ¬ (i : Int) < n := by omega
  have hd' : (n : Int) ≤ i := by omega
  go_enter Tryf.func45, Tryf.ntmps45
  go_wp2
  go_quiet (fail)
  go_wp2
  go_quiet (fail)
  go_wp2
  go_ret2
  exact ⟨rfl, _, by first | rfl | exact World.drewN_drewN _ _ _⟩

/-- k bytes have been read: into block G from o on; the reader's place has gone on. -/
structure Rd (w w' : World) (Q G o k i : Nat) (xs : List Int) : Prop where
  ch : Ch w w' [Q, G]
  size : w'.heap.size = w.heap.size
  q1 : w'.cell? ⟨Q, 1, none⟩ = some (.int .i64 ((i : Int) + k))
  q2 : w'.cell? ⟨Q, 2, none⟩ = some (.int .i64 (-1))
  qo : ∀ j, j ≠ 1 → j ≠ 2 → w'.cell? ⟨Q, j, none⟩ = w.cell? ⟨Q, j, none⟩
  inn : ∀ j, j < k → w'.cell? ⟨G, o + j, none⟩ = some (.int .u8 (xs.getD (i + j) 0))
  out : ∀ j, (j < o ∨ o + k ≤ j) → w'.cell? ⟨G, j, none⟩ = w.cell? ⟨G, j, none⟩

set_option maxHeartbeats 1000000 in
set_option maxRecDepth 100000 in
theorem read45_some (w : World) (Q D off n c i G o m cp k : Nat) (xs : List Int) (hn : n ≤ 1073741824) (hi : i < n) (hc : n ≤ c) (hm : 0 < m) (hk : k = Nat.min (n - i) m) (hQD : Q ≠ D) (hQG : Q ≠ G)
    (q0 : w.cell? ⟨Q, 0, none⟩ = some (.slice (some ⟨D, off, none⟩) n c)) (q1 : w.cell? ⟨Q, 1, none⟩ = some (.int .i64 i)) (x2 : Value) (q2 : w.cell? ⟨Q, 2, none⟩ = some x2) (f1 : w.frozen? ⟨Q, 1, none⟩ = false) (f2 : w.frozen? ⟨Q, 2, none⟩ = false)
    (hsrc : ∀ j, j < n → w.cell? ⟨D, off + j, none⟩ = some (.int .u8 (xs.getD j 0)))
    (hdst : ∀ j, j < k → (w.cell? ⟨G, o + j, none⟩).isSome = true) (hfz : ∀ j, w.frozen? ⟨G, j, none⟩ = false) :
    Calls Tryf.prog 45 #[.pointer (some ⟨Q, 0, none⟩), .slice (some ⟨G, o, none⟩) m cp] w fun e w' => e = .returned (.tuple #[.int .i64 k, .nilIface]) ∧ Rd w w' Q G o k i xs := by
  have hd : (i : Int) < n := by omega
  have hkn : k ≤ n - i := by rw [hk]; exact Nat.min_le_left _ _
  have HK : Hid (k = Nat.min (n - i) m) := hk
  have HS : Hid (∀ j, j < n → w.cell? ⟨D, off + j, none⟩ = some (.int .u8 (xs.getD j 0))) := hsrc
  have HD : Hid (∀ j, j < k → (w.cell? ⟨G, o + j, none⟩).isSome = true) := hdst
  have HF : Hid (∀ j, w.frozen? ⟨G, j, none⟩ = false) := hfz
  clear hk hsrc hdst hfz
  go_enter Tryf.func45, Tryf.ntmps45
  go_wp2
  go_quiet (fail)
  go_wp2
  obtain ⟨W1, hW1⟩ : ∃ W, W = (w.drewN nq).setCell ⟨Q, 2, none⟩ (.int .i64 (-1)) := ⟨_, rfl⟩
  rw [← hW1]
  have c0 : W1.cell? ⟨Q, 0, none⟩ = some (.slice (some ⟨D, off, none⟩) n c) := by rw [hW1, cell_set, if_neg (by omega)]; exact q0
  have c1 : W1.cell? ⟨Q, 1, none⟩ = some (.int .i64 i) := by rw [hW1, cell_set, if_neg (by omega)]; exact q1
  have g1 : W1.frozen? ⟨Q, 1, none⟩ = false := by rw [hW1, World.frozen?_setCell]; exact f1
  have hcp1 : (Builtin.copy_ #[22, 22] 3 #[.slice (some ⟨G, o, none⟩) m cp, .slice (some ⟨D, off + i, none⟩) (n - i) (c - i)]).run Tryf.prog W1.drew = .ok (.int .i64 k) (W1.drew.setCells G o (vals xs i k)) := by
    refine copy22 _ G o m cp D (off + i) (n - i) (c - i) i k xs HK.out (fun j hj => ?_) (fun j hj => ?_) (fun j => ?_)
    · rw [World.cell?_drew, hW1, cell_set, if_neg (by omega), show off + i + j = off + (i + j) from by omega]; exact HS.out _ (by omega)
    · rw [World.cell?_drew, hW1, cell_set, if_neg (by omega)]; exact HD.out j hj
    · show World.frozen? W1 _ = false; rw [hW1, World.frozen?_setCell]; exact HF.out j
  have HW1 : Hid (W1 = (w.drewN nq).setCell ⟨Q, 2, none⟩ (.int .i64 (-1))) := hW1
  clear hW1 q0 q1 f1 f2
  have hz1 : (0 : Int) ≤ (i : Int) := by omega
  have hz2 : (i : Int) ≤ n := by omega
  have hz3 : (n : Int) ≤ c := by omega
  go_region_held3 (fun W => W.cell? ⟨Q, 0, none⟩ = some (.slice (some ⟨D, off, none⟩) n c) ∧ W.cell? ⟨Q, 1, none⟩ = some (.int .i64 i)) (first | go_keep | (refine ⟨?_, ?_⟩ <;> (rw [cells_out _ _ _ _ _ _ _ _ (.inl hQG)]; first | exact c0 | exact c1))) (fail)
  obtain ⟨W2, hW2⟩ : ∃ W, W = W1.drew.setCells G o (vals xs i k) := ⟨_, rfl⟩
  rw [← hW2]
  have d1 : W2.cell? ⟨Q, 1, none⟩ = some (.int .i64 i) := by rw [hW2, cells_out _ _ _ _ _ _ _ _ (.inl hQG)]; exact c1
  have e1 : W2.frozen? ⟨Q, 1, none⟩ = false := by rw [hW2, frozen_cells]; exact g1
  have HR : Hid (Rd w (W2.setCell ⟨Q, 1, none⟩ (.int .i64 ((i : Int) + k))) Q G o k i xs) := by
    have eW : W2 = (((w.drewN nq).setCell ⟨Q, 2, none⟩ (.int .i64 (-1))).drew).setCells G o (vals xs i k) := by rw [hW2, HW1.out]
    have hd2 : ∀ j, j < k → ((((w.drewN nq).setCell ⟨Q, 2, none⟩ (.int .i64 (-1))).drew).cell? ⟨G, o + j, none⟩).isSome = true := fun j hj => by
      rw [World.cell?_drew, cell_set, if_neg (by omega)]; exact HD.out j hj
    refine ⟨?_, ?_, ?_, ?_, fun j h1 h2 => ?_, fun j hj => ?_, fun j hj => ?_⟩
    · rw [eW]
      exact (Ch.setCells (by simp) _ _ _ (((Ch.refl w _).drewN nq).set (by simp)).drew).set (by simp)
    · rw [World.size_setCell, eW, size_setCells]; show (World.setCell _ _ _).heap.size = _; rw [World.size_setCell]; rfl
    · rw [cell_set, if_pos ⟨rfl, rfl⟩, d1]; rfl
    · rw [cell_set, if_neg (by omega), eW, cells_out _ _ _ _ _ _ _ _ (.inl hQG), World.cell?_drew, cell_set, if_pos ⟨rfl, rfl⟩, World.cell?_drewN, q2]; rfl
    · rw [cell_set, if_neg (by omega), eW, cells_out _ _ _ _ _ _ _ _ (.inl hQG), World.cell?_drew, cell_set, if_neg (by omega)]; rfl
    · rw [cell_set, if_neg (by omega), eW]; exact cells_in _ G o i k xs hd2 j hj
    · rw [cell_set, if_neg (by omega), eW, cells_out _ _ _ _ _ _ _ _ (.inr hj), World.cell?_drew, cell_set, if_neg (by omega)]; rfl
  clear hW2 hcp1 HW1 c0 c1 g1 q2 HK HS HD HF
  go_wp2
  go_ret2
  exact ⟨rfl, HR.out⟩
end Go.Proofs.Qxb6616814aFmt
