import Derived.Test.Qxb6616814aFmtBread
namespace Go.Proofs.Qxb6616814aFmt
open Go.ChangeShapes Go.WideShapes Go.ChangeAt Go.RowKit
set_option linter.unusedSimpArgs false
set_option linter.unusedVariables false

/-- The bufio.Reader in block K, its buffer in block F, the bytes.Reader in block Q over the text xs. -/
structure BSt (w : World) (K F Q : Nat) (d : Option Addr) (n c : Nat) (xs : List Int) (i r v : Nat) (er : Value) : Prop where
  k0 : w.cell? ⟨K, 0, none⟩ = some (.slice (some ⟨F, 0, none⟩) 4096 4096)
  k1 : w.cell? ⟨K, 1, none⟩ = some (.iface 34 (.pointer (some ⟨Q, 0, none⟩)))
  k2 : w.cell? ⟨K, 2, none⟩ = some (.int .i64 r)
  k3 : w.cell? ⟨K, 3, none⟩ = some (.int .i64 v)
  k4 : w.cell? ⟨K, 4, none⟩ = some er
  k5 : ∃ x, w.cell? ⟨K, 5, none⟩ = some x
  k6 : ∃ x, w.cell? ⟨K, 6, none⟩ = some x
  kf : ∀ j, w.frozen? ⟨K, j, none⟩ = false
  q0 : w.cell? ⟨Q, 0, none⟩ = some (.slice d n c)
  q1 : w.cell? ⟨Q, 1, none⟩ = some (.int .i64 i)
  q2 : ∃ x, w.cell? ⟨Q, 2, none⟩ = some x
  qf : ∀ j, w.frozen? ⟨Q, j, none⟩ = false
  dat : n = 0 ∨ ∃ D off, d = some ⟨D, off, none⟩ ∧ D < w.heap.size ∧ D ≠ K ∧ D ≠ F ∧ D ≠ Q ∧ n ≤ c ∧ ∀ j, j < n → w.cell? ⟨D, off + j, none⟩ = some (.int .u8 (xs.getD j 0))
  bh : ∀ j, j < 4096 → (w.cell? ⟨F, j, none⟩).isSome = true
  bf : ∀ j, w.frozen? ⟨F, j, none⟩ = false
  bv : ∀ j, r ≤ j → j < v → w.cell? ⟨F, j, none⟩ = some (.int .u8 (xs.getD (i + j - v) 0))
  rv : r ≤ v
  v4 : v ≤ 4096
  iv : v ≤ i + r
  inn : i ≤ n
  nb : n ≤ 1073741824
  kF : K ≠ F
  kQ : K ≠ Q
  fQ : F ≠ Q
  lK : K < w.heap.size
  lF : F < w.heap.size
  lQ : Q < w.heap.size

theorem BSt.of_heap {w w' : World} {K F Q : Nat} {d : Option Addr} {n c : Nat} {xs : List Int} {i r v : Nat} {er : Value} (h : BSt w K F Q d n c xs i r v er) (e : w'.heap = w.heap) : BSt w' K F Q d n c xs i r v er := by
  have hc : ∀ a, w'.cell? a = w.cell? a := fun a => by simp [World.cell?, e]
  have hf : ∀ a, w'.frozen? a = w.frozen? a := fun a => by simp [World.frozen?, e]
  have hs : w'.heap.size = w.heap.size := by rw [e]
  obtain ⟨a0, a1, a2, a3, a4, a5, a6, a7, a8, a9, a10, a11, a12, a13, a14, a15, a16, a17, a18, a19, a20, a21, a22, a23, a24, a25, a26⟩ := h
  constructor <;> (try simp only [hc, hf, hs]) <;> assumption

theorem BSt.drewN {w : World} {K F Q : Nat} {d : Option Addr} {n c : Nat} {xs : List Int} {i r v : Nat} {er : Value} (h : BSt w K F Q d n c xs i r v er) (m : Nat) : BSt (w.drewN m) K F Q d n c xs i r v er := h.of_heap rfl

/-- A store into one of the fields of the reader itself: 2 (r), 4 (err), 5 and 6. -/
theorem BSt.setK {w : World} {K F Q : Nat} {d : Option Addr} {n c : Nat} {xs : List Int} {i r v : Nat} {er : Value} (h : BSt w K F Q d n c xs i r v er) (f : Nat) (x : Value) (hf : f ≠ 0 ∧ f ≠ 1) (r' v' : Nat) (er' : Value)
    (e2 : (w.setCell ⟨K, f, none⟩ x).cell? ⟨K, 2, none⟩ = some (.int .i64 r')) (e3 : (w.setCell ⟨K, f, none⟩ x).cell? ⟨K, 3, none⟩ = some (.int .i64 v')) (e4 : (w.setCell ⟨K, f, none⟩ x).cell? ⟨K, 4, none⟩ = some er')
    (hbv : ∀ j, r' ≤ j → j < v' → w.cell? ⟨F, j, none⟩ = some (.int .u8 (xs.getD (i + j - v') 0))) (hrv : r' ≤ v') (hv4 : v' ≤ 4096) (hiv : v' ≤ i + r') :
    BSt (w.setCell ⟨K, f, none⟩ x) K F Q d n c xs i r' v' er' := by
  have hkF := h.kF
  have hkQ := h.kQ
  have oth : ∀ b j, b ≠ K → (w.setCell ⟨K, f, none⟩ x).cell? ⟨b, j, none⟩ = w.cell? ⟨b, j, none⟩ := fun b j hb => by rw [cell_set, if_neg (fun hh => hb hh.1.symm)]
  have own : ∀ j, (∃ u, w.cell? ⟨K, j, none⟩ = some u) → ∃ u, (w.setCell ⟨K, f, none⟩ x).cell? ⟨K, j, none⟩ = some u := fun j ⟨u, hu⟩ => by
    rw [cell_set]; split
    · exact ⟨_, by rw [hu]; rfl⟩
    · exact ⟨u, hu⟩
  have fz : ∀ a, (w.setCell ⟨K, f, none⟩ x).frozen? a = w.frozen? a := fun a => World.frozen?_setCell _ _ _ _
  refine ⟨by rw [cell_set, if_neg (by omega)]; exact h.k0, by rw [cell_set, if_neg (by omega)]; exact h.k1, e2, e3, e4, own _ h.k5, own _ h.k6, fun j => by rw [fz]; exact h.kf j,
    by rw [oth _ _ (Ne.symm hkQ)]; exact h.q0, by rw [oth _ _ (Ne.symm hkQ)]; exact h.q1, by rw [oth _ _ (Ne.symm hkQ)]; exact h.q2, fun j => by rw [fz]; exact h.qf j, ?_, fun j hj => by rw [oth _ _ (Ne.symm hkF)]; exact h.bh j hj, fun j => by rw [fz]; exact h.bf j,
    fun j h1 h2 => by rw [oth _ _ (Ne.symm hkF)]; exact hbv j h1 h2, hrv, hv4, hiv, h.inn, h.nb, hkF, hkQ, h.fQ, by rw [World.size_setCell]; exact h.lK, by rw [World.size_setCell]; exact h.lF, by rw [World.size_setCell]; exact h.lQ⟩
  rcases h.dat with h0 | ⟨D, off, hd, hl, n1, n2, n3, hc, hcells⟩
  · exact .inl h0
  · exact .inr ⟨D, off, hd, by rw [World.size_setCell]; exact hl, n1, n2, n3, hc, fun j hj => by rw [oth _ _ n1]; exact hcells j hj⟩

theorem BSt.setErr {w : World} {K F Q : Nat} {d : Option Addr} {n c : Nat} {xs : List Int} {i r v : Nat} {er : Value} (h : BSt w K F Q d n c xs i r v er) (x : Value) : BSt (w.setCell ⟨K, 4, none⟩ x) K F Q d n c xs i r v x :=
  h.setK 4 x (by omega) r v x (by rw [cell_set, if_neg (by omega)]; exact h.k2) (by rw [cell_set, if_neg (by omega)]; exact h.k3) (by rw [cell_set, if_pos ⟨rfl, rfl⟩, h.k4]; rfl) h.bv h.rv h.v4 h.iv
theorem BSt.set56 {w : World} {K F Q : Nat} {d : Option Addr} {n c : Nat} {xs : List Int} {i r v : Nat} {er : Value} (h : BSt w K F Q d n c xs i r v er) (f : Nat) (hf : f = 5 ∨ f = 6) (x : Value) : BSt (w.setCell ⟨K, f, none⟩ x) K F Q d n c xs i r v er :=
  h.setK f x (by omega) r v er (by rw [cell_set, if_neg (by omega)]; exact h.k2) (by rw [cell_set, if_neg (by omega)]; exact h.k3) (by rw [cell_set, if_neg (by omega)]; exact h.k4) h.bv h.rv h.v4 h.iv
theorem BSt.setR {w : World} {K F Q : Nat} {d : Option Addr} {n c : Nat} {xs : List Int} {i r v : Nat} {er : Value} (h : BSt w K F Q d n c xs i r v er) (r' : Nat) (h1 : r ≤ r') (h2 : r' ≤ v) : BSt (w.setCell ⟨K, 2, none⟩ (.int .i64 r')) K F Q d n c xs i r' v er :=
  h.setK 2 _ (by omega) r' v er (by rw [cell_set, if_pos ⟨rfl, rfl⟩, h.k2]; rfl) (by rw [cell_set, if_neg (by omega)]; exact h.k3) (by rw [cell_set, if_neg (by omega)]; exact h.k4) (fun j a b => h.bv j (by omega) b) h2 h.v4 (by have := h.iv; omega)

/-- Bytes read into the buffer behind v, and v put on. -/
theorem BSt.filled {w w1 : World} {K F Q : Nat} {d : Option Addr} {n c : Nat} {xs : List Int} {i r v k : Nat} {er : Value} (h : BSt w K F Q d n c xs i r v er) (hr : Rd w w1 Q F v k i xs) (hk : i + k ≤ n) (hv : v + k ≤ 4096) :
    BSt (w1.setCell ⟨K, 3, none⟩ (.int .i64 ((v : Int) + k))) K F Q d n c xs (i + k) r (v + k) er := by
  have hkF := h.kF
  have hkQ := h.kQ
  have hfQ := h.fQ
  have hKn : K ∉ [Q, F] := by simp [hkF, hkQ]
  have ck : ∀ j, w1.cell? ⟨K, j, none⟩ = w.cell? ⟨K, j, none⟩ := fun j => hr.ch.cell h.lK hKn
  have fz : ∀ b j, b < w.heap.size → (w1.setCell ⟨K, 3, none⟩ (.int .i64 ((v : Int) + k))).frozen? ⟨b, j, none⟩ = w.frozen? ⟨b, j, none⟩ := fun b j hb => by rw [World.frozen?_setCell]; exact hr.ch.fz b j hb
  have oth : ∀ b j, b ≠ K → (w1.setCell ⟨K, 3, none⟩ (.int .i64 ((v : Int) + k))).cell? ⟨b, j, none⟩ = w1.cell? ⟨b, j, none⟩ := fun b j hb => by rw [cell_set, if_neg (fun hh => hb hh.1.symm)]
  have own : ∀ j, j ≠ 3 → (w1.setCell ⟨K, 3, none⟩ (.int .i64 ((v : Int) + k))).cell? ⟨K, j, none⟩ = w.cell? ⟨K, j, none⟩ := fun j hj => by rw [cell_set, if_neg (by omega)]; exact ck j
  have hsz : (w1.setCell ⟨K, 3, none⟩ (.int .i64 ((v : Int) + k))).heap.size = w.heap.size := by rw [World.size_setCell]; exact hr.size
  have hrv := h.rv
  have hiv := h.iv
  have bcell : ∀ j, j < 4096 → ((w1.setCell ⟨K, 3, none⟩ (.int .i64 ((v : Int) + k))).cell? ⟨F, j, none⟩).isSome = true := fun j hj => by
    rw [oth _ _ (Ne.symm hkF)]
    by_cases hj2 : v ≤ j ∧ j < v + k
    · have := hr.inn (j - v) (by omega)
      rw [show v + (j - v) = j from by omega] at this
      rw [this]; rfl
    · rw [hr.out j (by omega)]; exact h.bh j hj
  refine ⟨by rw [own _ (by omega)]; exact h.k0, by rw [own _ (by omega)]; exact h.k1, by rw [own _ (by omega)]; exact h.k2, by rw [cell_set, if_pos ⟨rfl, rfl⟩, ck, h.k3]; rfl, by rw [own _ (by omega)]; exact h.k4, by rw [own _ (by omega)]; exact h.k5, by rw [own _ (by omega)]; exact h.k6, fun j => by rw [fz _ _ h.lK]; exact h.kf j,
    by rw [oth _ _ (Ne.symm hkQ), hr.qo 0 (by omega) (by omega)]; exact h.q0, by rw [oth _ _ (Ne.symm hkQ), hr.q1]; rfl, ⟨_, by rw [oth _ _ (Ne.symm hkQ)]; exact hr.q2⟩, fun j => by rw [fz _ _ h.lQ]; exact h.qf j, ?_, bcell, fun j => by rw [fz _ _ h.lF]; exact h.bf j, fun j h1 h2 => ?_,
    by omega, hv, by omega, hk, h.nb, hkF, hkQ, hfQ, by rw [hsz]; exact h.lK, by rw [hsz]; exact h.lF, by rw [hsz]; exact h.lQ⟩
  · rcases h.dat with h0 | ⟨D, off, hd, hl, n1, n2, n3, hc, hcells⟩
    · exact .inl h0
    · exact .inr ⟨D, off, hd, by rw [hsz]; exact hl, n1, n2, n3, hc, fun j hj => by rw [oth _ _ n1, hr.ch.cell hl (by simp [n2, n3])]; exact hcells j hj⟩
  · rw [oth _ _ (Ne.symm hkF)]
    by_cases hj : v ≤ j
    · have := hr.inn (j - v) (by omega)
      rw [show v + (j - v) = j from by omega] at this
      rw [this, show i + k + j - (v + k) = i + (j - v) from by omega]
    · rw [hr.out j (by omega), show i + k + j - (v + k) = i + j - v from by omega]; exact h.bv j h1 (by omega)

set_option maxHeartbeats 1000000 in
set_option maxRecDepth 100000 in
theorem readErr_any (w : World) (K : Nat) (er : Value) (k4 : w.cell? ⟨K, 4, none⟩ = some er) (ho : er.oneCell' = true) (hf : w.frozen? ⟨K, 4, none⟩ = false) :
    Calls Tryf.prog 25 #[.pointer (some ⟨K, 0, none⟩)] w fun e w' => e = .returned er ∧ w' = w.setCell ⟨K, 4, none⟩ .nilIface := by
  go_enter Tryf.func25, Tryf.ntmps25
  go_wp2
  go_ret
  exact ⟨rfl, rfl⟩

set_option maxHeartbeats 1000000 in
set_option maxRecDepth 100000 in
theorem buffered_any (w : World) (K r v : Nat) (k2 : w.cell? ⟨K, 2, none⟩ = some (.int .i64 r)) (k3 : w.cell? ⟨K, 3, none⟩ = some (.int .i64 v)) (hrv : r ≤ v) (hv : v ≤ 4096) :
    Calls Tryf.prog 26 #[.pointer (some ⟨K, 0, none⟩)] w fun e w' => e = .returned (.int .i64 ((v : Int) - r)) ∧ ∃ m, w' = w.drewN m := by
  go_enter Tryf.func26, Tryf.ntmps26
  go_wp2
  go_quiet (fail)
  go_wp2
  go_ret
  exact ⟨rfl, _, rfl⟩
end Go.Proofs.Qxb6616814aFmt
