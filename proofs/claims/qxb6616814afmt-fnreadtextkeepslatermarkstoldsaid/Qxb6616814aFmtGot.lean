import Derived.Test.Qxb6616814aFmtSkip
namespace Go.Proofs.Qxb6616814aFmt
open Go.ChangeShapes Go.WideShapes Go.ChangeAt Go.RowKit
set_option linter.unusedSimpArgs false
set_option linter.unusedVariables false

/-- What lies elsewhere may turn. -/
theorem BSt.ch {w w' : World} {K F Q : Nat} {d : Option Addr} {n c : Nat} {xs : List Int} {i r v : Nat} {er : Value} {A : List Nat} (h : BSt w K F Q d n c xs i r v er) (hc : Ch w w' A) (nK : K ∉ A) (nF : F ∉ A) (nQ : Q ∉ A) (nD : ∀ D off, d = some ⟨D, off, none⟩ → D ∉ A) : BSt w' K F Q d n c xs i r v er := by
  have cK : ∀ j, w'.cell? ⟨K, j, none⟩ = w.cell? ⟨K, j, none⟩ := fun j => hc.cell h.lK nK
  have cF : ∀ j, w'.cell? ⟨F, j, none⟩ = w.cell? ⟨F, j, none⟩ := fun j => hc.cell h.lF nF
  have cQ : ∀ j, w'.cell? ⟨Q, j, none⟩ = w.cell? ⟨Q, j, none⟩ := fun j => hc.cell h.lQ nQ
  have hs := hc.size
  refine ⟨by rw [cK]; exact h.k0, by rw [cK]; exact h.k1, by rw [cK]; exact h.k2, by rw [cK]; exact h.k3, by rw [cK]; exact h.k4, by rw [cK]; exact h.k5, by rw [cK]; exact h.k6, fun j => by rw [hc.fz K j h.lK]; exact h.kf j, by rw [cQ]; exact h.q0, by rw [cQ]; exact h.q1, by rw [cQ]; exact h.q2, fun j => by rw [hc.fz Q j h.lQ]; exact h.qf j, ?_, fun j hj => by rw [cF]; exact h.bh j hj, fun j => by rw [hc.fz F j h.lF]; exact h.bf j, fun j a b => by rw [cF]; exact h.bv j a b, h.rv, h.v4, h.iv, h.inn, h.nb, h.kF, h.kQ, h.fQ, by have := h.lK; omega, by have := h.lF; omega, by have := h.lQ; omega⟩
  rcases h.dat with h0 | ⟨D, off, hd, hl, n1, n2, n3, hcc, hcells⟩
  · exact .inl h0
  · exact .inr ⟨D, off, hd, by omega, n1, n2, n3, hcc, fun j hj => by rw [hc.cell hl (nD D off hd)]; exact hcells j hj⟩

/-- The reader's own fields laid anew. -/
theorem BSt.rek {w w' : World} {K F Q : Nat} {d : Option Addr} {n c : Nat} {xs : List Int} {i r v : Nat} {er : Value} (h : BSt w K F Q d n c xs i r v er) (hc : Ch w w' [K]) (r' v' : Nat) (er' : Value)
    (e0 : w'.cell? ⟨K, 0, none⟩ = w.cell? ⟨K, 0, none⟩) (e1 : w'.cell? ⟨K, 1, none⟩ = w.cell? ⟨K, 1, none⟩) (e2 : w'.cell? ⟨K, 2, none⟩ = some (.int .i64 r')) (e3 : w'.cell? ⟨K, 3, none⟩ = some (.int .i64 v')) (e4 : w'.cell? ⟨K, 4, none⟩ = some er')
    (e5 : ∃ x, w'.cell? ⟨K, 5, none⟩ = some x) (e6 : ∃ x, w'.cell? ⟨K, 6, none⟩ = some x)
    (hbv : ∀ j, r' ≤ j → j < v' → w.cell? ⟨F, j, none⟩ = some (.int .u8 (xs.getD (i + j - v') 0))) (hrv : r' ≤ v') (hv4 : v' ≤ 4096) (hiv : v' ≤ i + r') : BSt w' K F Q d n c xs i r' v' er' := by
  have nF : F ∉ [K] := by simpa using Ne.symm h.kF
  have nQ : Q ∉ [K] := by simpa using Ne.symm h.kQ
  have cF : ∀ j, w'.cell? ⟨F, j, none⟩ = w.cell? ⟨F, j, none⟩ := fun j => hc.cell h.lF nF
  have cQ : ∀ j, w'.cell? ⟨Q, j, none⟩ = w.cell? ⟨Q, j, none⟩ := fun j => hc.cell h.lQ nQ
  have hs := hc.size
  refine ⟨by rw [e0]; exact h.k0, by rw [e1]; exact h.k1, e2, e3, e4, e5, e6, fun j => by rw [hc.fz K j h.lK]; exact h.kf j, by rw [cQ]; exact h.q0, by rw [cQ]; exact h.q1, by rw [cQ]; exact h.q2, fun j => by rw [hc.fz Q j h.lQ]; exact h.qf j, ?_, fun j hj => by rw [cF]; exact h.bh j hj, fun j => by rw [hc.fz F j h.lF]; exact h.bf j, fun j a b => by rw [cF]; exact hbv j a b, hrv, hv4, hiv, h.inn, h.nb, h.kF, h.kQ, h.fQ, by have := h.lK; omega, by have := h.lF; omega, by have := h.lQ; omega⟩
  rcases h.dat with h0 | ⟨D, off, hd, hl, n1, n2, n3, hcc, hcells⟩
  · exact .inl h0
  · exact .inr ⟨D, off, hd, by omega, n1, n2, n3, hcc, fun j hj => by rw [hc.cell hl (by simpa using n1)]; exact hcells j hj⟩

/-- r and w put back to 0 where nothing is buffered. -/
theorem BSt.reset {w : World} {K F Q : Nat} {d : Option Addr} {n c : Nat} {xs : List Int} {i r : Nat} {er : Value} (h : BSt w K F Q d n c xs i r r er) : BSt ((w.setCell ⟨K, 2, none⟩ (.int .i64 0)).setCell ⟨K, 3, none⟩ (.int .i64 0)) K F Q d n c xs i 0 0 er := by
  have o : ∀ j, j ≠ 2 → j ≠ 3 → ((w.setCell ⟨K, 2, none⟩ (.int .i64 0)).setCell ⟨K, 3, none⟩ (.int .i64 0)).cell? ⟨K, j, none⟩ = w.cell? ⟨K, j, none⟩ := fun j a b => by
    rw [cell_set, if_neg (by omega), cell_set, if_neg (by omega)]
  refine h.rek (((Ch.refl w _).set (by simp)).set (by simp)) 0 0 er (o 0 (by omega) (by omega)) (o 1 (by omega) (by omega)) ?_ ?_ (by rw [o 4 (by omega) (by omega)]; exact h.k4) (by rw [o 5 (by omega) (by omega)]; exact h.k5) (by rw [o 6 (by omega) (by omega)]; exact h.k6) (fun j a b => by omega) (by omega) (by omega) (by omega)
  · rw [cell_set, if_neg (by omega), cell_set, if_pos ⟨rfl, rfl⟩, h.k2]; rfl
  · rw [cell_set, if_pos ⟨rfl, rfl⟩, cell_set, if_neg (by omega), h.k3]; rfl

/-- A read straight past the buffer, into block G. -/
theorem BSt.passed {w w1 : World} {K F Q G o : Nat} {d : Option Addr} {n c : Nat} {xs : List Int} {i r k : Nat} {er : Value} (h : BSt w K F Q d n c xs i r r er) (hr : Rd w w1 Q G o k i xs) (hk : i + k ≤ n) (nK : K ≠ G) (nF : F ≠ G) (nQ : Q ≠ G) (nD : ∀ D off, d = some ⟨D, off, none⟩ → D ≠ G) :
    BSt w1 K F Q d n c xs (i + k) r r er := by
  have mK : K ∉ [Q, G] := by simp [nK, h.kQ]
  have mF : F ∉ [Q, G] := by simp [nF, h.fQ]
  have cK : ∀ j, w1.cell? ⟨K, j, none⟩ = w.cell? ⟨K, j, none⟩ := fun j => hr.ch.cell h.lK mK
  have cF : ∀ j, w1.cell? ⟨F, j, none⟩ = w.cell? ⟨F, j, none⟩ := fun j => hr.ch.cell h.lF mF
  have hs := hr.size
  have hiv := h.iv
  refine ⟨by rw [cK]; exact h.k0, by rw [cK]; exact h.k1, by rw [cK]; exact h.k2, by rw [cK]; exact h.k3, by rw [cK]; exact h.k4, by rw [cK]; exact h.k5, by rw [cK]; exact h.k6, fun j => by rw [hr.ch.fz K j h.lK]; exact h.kf j, by rw [hr.qo 0 (by omega) (by omega)]; exact h.q0, by rw [hr.q1]; rfl, ⟨_, hr.q2⟩, fun j => by rw [hr.ch.fz Q j h.lQ]; exact h.qf j, ?_, fun j hj => by rw [cF]; exact h.bh j hj, fun j => by rw [hr.ch.fz F j h.lF]; exact h.bf j, fun j a b => by omega, h.rv, h.v4, by omega, hk, h.nb, h.kF, h.kQ, h.fQ, by rw [hs]; exact h.lK, by rw [hs]; exact h.lF, by rw [hs]; exact h.lQ⟩
  rcases h.dat with h0 | ⟨D, off, hd, hl, n1, n2, n3, hcc, hcells⟩
  · exact .inl h0
  · exact .inr ⟨D, off, hd, by rw [hs]; exact hl, n1, n2, n3, hcc, fun j hj => by rw [hr.ch.cell hl (by simp [n3, nD D off hd])]; exact hcells j hj⟩

/-- What (*bufio.Reader).Read gives where something is left: k bytes, into block G from o on. -/
structure Got (w w' : World) (K F Q G o k pos : Nat) (d : Option Addr) (n c : Nat) (xs : List Int) : Prop where
  ch : Ch w w' [K, F, Q, G]
  size : w'.heap.size = w.heap.size
  st : Strm w' K F Q d n c xs (pos + k)
  inn : ∀ j, j < k → w'.cell? ⟨G, o + j, none⟩ = some (.int .u8 (xs.getD (pos + j) 0))
  out : ∀ j, (j < o ∨ o + k ≤ j) → w'.cell? ⟨G, j, none⟩ = w.cell? ⟨G, j, none⟩
end Go.Proofs.Qxb6616814aFmt
