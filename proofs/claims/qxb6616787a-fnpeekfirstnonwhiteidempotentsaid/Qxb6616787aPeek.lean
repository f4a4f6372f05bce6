import Derived.Test.Qxb6616787aRows
import Derived.WalkKit
import Derived.ProofKit
import Derived.Handy
import Derived.Outline
import Derived.Below
import Derived.Deep.QuietTactic
import Derived.BigQuiet
import Derived.WalkSpells
namespace Go.Proofs.Qxb6616787a
open Go.ChangeShapes Go.WideShapes Go.ChangeAt Go.RowKit
set_option linter.unusedSimpArgs false
set_option linter.unusedVariables false

theorem cell_set (w : World) (b o b' o' : Nat) (v : Value) : (w.setCell ⟨b, o, none⟩ v).cell? ⟨b', o', none⟩ = if b = b' ∧ o = o' then (w.cell? ⟨b', o', none⟩).map (fun _ => v) else w.cell? ⟨b', o', none⟩ := by
  by_cases h : b = b' ∧ o = o'
  · obtain ⟨rfl, rfl⟩ := h
    rw [if_pos ⟨rfl, rfl⟩]
    cases hc : w.cell? ⟨b, o, none⟩ with
    | some u => rw [World.cell?_setCell_same (h := hc)]; rfl
    | none =>
      by_cases hc' : (w.setCell ⟨b, o, none⟩ v).cell? ⟨b, o, none⟩ = none
      · rw [hc']; rfl
      · exfalso
        revert hc hc'
        simp only [World.cell?, World.setCell, Array.getElem?_modify]
        cases w.heap[b]? with
        | none => simp
        | some x => cases x <;> simp
  · rw [if_neg h, World.cell?_setCell_other (h := by simpa using h)]
theorem cell_alloc (w : World) (c : Array Value) (t : TypeId) (b o : Nat) : (w.alloc (.cells c t)).cell? ⟨b, o, none⟩ = if b = w.heap.size then c[o]? else w.cell? ⟨b, o, none⟩ := by
  by_cases h : b = w.heap.size
  · subst h; rw [if_pos rfl, World.cell?_alloc_new]
  · rw [if_neg h, World.cell?_alloc_old (h := by simpa using h)]
theorem frozen_out (w : World) (b i : Nat) (h : w.heap.size ≤ b) : w.frozen? ⟨b, i, none⟩ = false := by
  simp [World.frozen?, Array.getElem?_eq_none h]
theorem below_drewN (B : Nat) (w : World) (m : Nat) : Below B w (w.drewN m) := ⟨rfl, rfl, rfl, Nat.le_refl _, fun _ _ => rfl⟩

/-- A slice of bytes: empty, or a row of numbers at an address. -/
def Row8 (w : World) (a : Option Addr) (n : Nat) (zs : List Int) : Prop :=
  n = 0 ∨ ∃ b off, a = some ⟨b, off, none⟩ ∧ b < w.heap.size ∧ ∀ i, i < n → w.cell? ⟨b, off + i, none⟩ = some (.int .u8 (zs.getD i 0))

/-- JSON's white space. -/
def isW (b : Int) : Bool := b == 32 || b == 9 || b == 10 || b == 13

set_option maxHeartbeats 400000 in
theorem white_yes (b : Int) (h : isW b = true) (w : World) :
    Calls Try.prog 13 #[.int .u8 b] w fun e w' => e = .returned (.bool true) ∧ w' = w := by
  have h' : b = 32 ∨ b = 9 ∨ b = 10 ∨ b = 13 := by simpa [isW, or_assoc] using h
  rcases h' with rfl | rfl | rfl | rfl
  all_goals
    go_enter Try.func13, Try.ntmps13
    go_wp2
    go_ret
    exact ⟨rfl, rfl⟩
set_option maxHeartbeats 400000 in
theorem white_no (b : Int) (h : isW b = false) (w : World) :
    Calls Try.prog 13 #[.int .u8 b] w fun e w' => e = .returned (.bool false) ∧ w' = w := by
  simp [isW] at h
  have h1 : (b == 32) = false := by simp; omega
  have h2 : (b == 9) = false := by simp; omega
  have h3 : (b == 10) = false := by simp; omega
  have h4 : (b == 13) = false := by simp; omega
  clear h
  go_enter Try.func13, Try.ntmps13
  go_wp2
  go_ret
  exact ⟨rfl, rfl⟩
theorem white_any (b : Int) (w : World) :
    Calls Try.prog 13 #[.int .u8 b] w fun e w' => e = .returned (.bool (isW b)) ∧ w' = w := by
  cases h : isW b with
  | true => exact white_yes b h w
  | false => exact white_no b h w

/-- Where peek stops. -/
structure Stop (zs : List Int) (n at_ p : Nat) : Prop where
  lo : at_ ≤ p
  hi : p ≤ n
  white : ∀ i, at_ ≤ i → i < p → isW (zs.getD i 0) = true
  no : p < n → isW (zs.getD p 0) = false

theorem Stop.uniq {zs : List Int} {n a p q : Nat} (h : Stop zs n a p) (h' : Stop zs n a q) : p = q := by
  rcases Nat.lt_trichotomy p q with hl | hl | hl
  · have a1 := h.no (by have := h'.hi; omega)
    have a2 := h'.white p h.lo hl
    rw [a1] at a2; cases a2
  · exact hl
  · have a1 := h'.no (by have := h.hi; omega)
    have a2 := h.white q h'.lo hl
    rw [a1] at a2; cases a2

/-- The byte there, 0 at the end. -/
def bAt (zs : List Int) (n p : Nat) : Int := if p < n then zs.getD p 0 else 0

/-- What the reader's field 'at' holds. -/
def curAt (w : World) (K : Nat) : Nat := (intOf ((w.cell? ⟨K, 1, none⟩).getD undef)).toNat
theorem curAt_of {w : World} {K k : Nat} (h : w.cell? ⟨K, 1, none⟩ = some (.int .i64 k)) : curAt w K = k := by simp [curAt, h, intOf]

set_option maxHeartbeats 1000000 in
set_option maxRecDepth 100000 in
theorem peek_pos (w : World) (K b off n c at_ : Nat) (zs : List Int) (hat : at_ ≤ n) (hn : n ≤ 1048577) (hK : K < w.heap.size) (hbK : b ≠ K)
    (k0 : w.cell? ⟨K, 0, none⟩ = some (.slice (some ⟨b, off, none⟩) n c)) (k1 : w.cell? ⟨K, 1, none⟩ = some (.int .i64 at_)) (f1 : w.frozen? ⟨K, 1, none⟩ = false)
    (hc : ∀ i, i < n → w.cell? ⟨b, off + i, none⟩ = some (.int .u8 (zs.getD i 0))) :
    Calls Try.prog 22 #[.pointer (some ⟨K, 0, none⟩)] w fun e w' => ∃ p, Stop zs n at_ p ∧ e = .returned (.int .u8 (bAt zs n p)) ∧ Below K w w' ∧ w'.cell? ⟨K, 1, none⟩ = some (.int .i64 p) := by
  have HC : Hid (∀ i, i < n → w.cell? ⟨b, off + i, none⟩ = some (.int .u8 (zs.getD i 0))) := hc
  clear hc
  go_enter Try.func22, Try.ntmps22
  go_wp2
  go_loopw [2] (fun _ wr => ∃ k : Nat, at_ ≤ k ∧ k ≤ n ∧ Below K w wr ∧ wr.cell? ⟨K, 0, none⟩ = some (.slice (some ⟨b, off, none⟩) n c) ∧ wr.cell? ⟨K, 1, none⟩ = some (.int .i64 k) ∧ wr.frozen? ⟨K, 1, none⟩ = false ∧ (∀ i, i < n → wr.cell? ⟨b, off + i, none⟩ = some (.int .u8 (zs.getD i 0))) ∧ ∀ i, at_ ≤ i → i < k → isW (zs.getD i 0) = true) (fun _ wr => n - curAt wr K)
  case atStart => exact ⟨at_, Nat.le_refl _, hat, Below.refl _ _, k0, k1, f1, HC.out, fun i h1 h2 => by omega⟩
  case round =>
    obtain ⟨k, hk1, hk2, hbel, q0, q1, qf, hcr, hwh⟩ := hrel
    have HB : Hid (Below K w wr) := hbel
    have HCR : Hid (∀ i, i < n → wr.cell? ⟨b, off + i, none⟩ = some (.int .u8 (zs.getD i 0))) := hcr
    have HW : Hid (∀ i, at_ ≤ i → i < k → isW (zs.getD i 0) = true) := hwh
    clear hbel hcr hwh k0 k1 f1
    by_cases hkn : k < n
    · have hk' : (k : Int) < n := by omega
      have hcell := HCR.out k hkn
      cases hw : isW (zs.getD k 0) with
      | true =>
        have hx : zs.getD k 0 = 32 ∨ zs.getD k 0 = 9 ∨ zs.getD k 0 = 10 ∨ zs.getD k 0 = 13 := by simpa [isW, or_assoc] using hw
        have HWk : Hid (isW (zs.getD k 0) = true) := hw
        clear hw
        rcases hx with hx | hx | hx | hx
        all_goals
          rw [hx] at hcell
          clear hx
          go_wp2
          go_quiet (fail)
          go_wp2
          go_quiet (fail)
          go_wp2
          go_roundw
          case rel =>
            refine ⟨k + 1, by omega, by omega, (HB.out.trans (below_drewN _ _ _)).setCell (Nat.le_refl _) _, ?_, ?_, ?_, fun i hi => ?_, fun i h1 h2 => ?_⟩
            · rw [cell_set, if_neg (by omega)]; exact q0
            · rw [cell_set, if_pos ⟨rfl, rfl⟩, World.cell?_drewN, q1]; simp
            · rw [World.frozen?_setCell]; exact qf
            · rw [cell_set, if_neg (fun h => hbK h.1.symm)]; exact HCR.out i hi
            · by_cases hik : i = k
              · subst hik; exact HWk.out
              · exact HW.out i h1 (by omega)
          case measure =>
            rw [curAt_of q1, curAt_of (k := k + 1) (by rw [cell_set, if_pos ⟨rfl, rfl⟩, World.cell?_drewN, q1]; simp)]
            omega
      | false =>
        have HWk : Hid (isW (zs.getD k 0) = false) := hw
        have hbt : bAt zs n k = zs.getD k 0 := by simp [bAt, hkn]
        have HBT : Hid (bAt zs n k = zs.getD k 0) := hbt
        clear hbt
        generalize hx : zs.getD k 0 = x at *
        have HX : Hid (zs.getD k 0 = x) := hx
        clear hx
        simp [isW] at hw
        have h1 : (x == 32) = false := by simp; omega
        have h2 : (x == 9) = false := by simp; omega
        have h3 : (x == 10) = false := by simp; omega
        have h4 : (x == 13) = false := by simp; omega
        clear hw
        go_wp2
        go_quiet (fail)
        go_wp2
        go_quiet (fail)
        go_wp2
        go_ret
        refine ⟨k, ⟨hk1, hk2, HW.out, fun _ => by rw [HX.out]; exact HWk.out⟩, ?_, ?_, q1⟩
        · rw [HBT.out]; rfl
        · exact HB.out.trans (below_drewN _ _ _)
    · have hk' : ¬ (k : Int) < n := by omega
      go_wp2
      go_quiet (fail)
      go_wp2
      go_ret
      refine ⟨k, ⟨hk1, hk2, HW.out, fun h => absurd h hkn⟩, ?_, HB.out.trans (below_drewN _ _ _), q1⟩
      simp [bAt, hkn]

set_option maxHeartbeats 1000000 in
set_option maxRecDepth 100000 in
/-- An empty text: nothing is read. -/
theorem peek_zero (w : World) (K c : Nat) (d : Option Addr) (zs : List Int)
    (k0 : w.cell? ⟨K, 0, none⟩ = some (.slice d 0 c)) (k1 : w.cell? ⟨K, 1, none⟩ = some (.int .i64 0)) :
    Calls Try.prog 22 #[.pointer (some ⟨K, 0, none⟩)] w fun e w' => e = .returned (.int .u8 0) ∧ ∃ m, w' = w.drewN m := by
  go_enter Try.func22, Try.ntmps22
  go_wp2
  go_loopw [2] (fun _ wr => ∃ m : Nat, wr = w.drewN m) (fun _ wr => 0)
  case atStart => exact ⟨0, rfl⟩
  case round =>
    obtain ⟨m, rfl⟩ := hrel
    go_wp2
    go_quiet (fail)
    go_wp2
    go_ret
    exact ⟨rfl, _, by first | rfl | exact World.drewN_drewN _ _ _⟩

/-- What ZZpeek gives. -/
def PeekRes (zs : List Int) (n at_ : Nat) (e : Ending) : Prop := ∃ p, Stop zs n at_ p ∧ e = .returned (.tuple #[.int .u8 (bAt zs n p), .int .i64 p])

set_option maxHeartbeats 1000000 in
set_option maxRecDepth 100000 in
theorem zzpeek_zero (w : World) (d : Option Addr) (c : Nat) (zs : List Int) :
    Calls Try.prog 12 #[.slice d 0 c, .int .i64 0] w fun e w' => PeekRes zs 0 0 e ∧ Below w.heap.size w w' := by
  go_enter Try.func12, Try.ntmps12
  go_wp2_with fail
  refine (peek_zero _ w.heap.size c d zs (by simp) (by simp)).mono ?_
  rintro e w' ⟨rfl, m, rfl⟩
  go_wp2
  go_quiet (fail)
  go_wp2
  go_ret2
  refine ⟨⟨0, ⟨by omega, by omega, fun i h1 h2 => by omega, fun h => by omega⟩, ?_⟩, ?_⟩
  · simp [bAt]
  · exact ((Below.refl _ _).alloc (Nat.le_refl _) _).trans ((below_drewN _ _ _).trans (below_drewN _ _ _))

set_option maxHeartbeats 1000000 in
set_option maxRecDepth 100000 in
theorem zzpeek_pos (w : World) (b off n c at_ : Nat) (zs : List Int) (hat : at_ ≤ n) (hn : n ≤ 1048577) (hb : b < w.heap.size)
    (hc : ∀ i, i < n → w.cell? ⟨b, off + i, none⟩ = some (.int .u8 (zs.getD i 0))) :
    Calls Try.prog 12 #[.slice (some ⟨b, off, none⟩) n c, .int .i64 at_] w fun e w' => PeekRes zs n at_ e ∧ Below w.heap.size w w' := by
  have HC : Hid (∀ i, i < n → w.cell? ⟨b, off + i, none⟩ = some (.int .u8 (zs.getD i 0))) := hc
  clear hc
  go_enter Try.func12, Try.ntmps12
  go_wp2_with fail
  refine (peek_pos _ w.heap.size b off n c at_ zs hat hn (by simp) (by omega) (by simp) (by simp) (by simp) (fun i hi => by rw [World.cell?_alloc_lt _ _ _ hb]; exact HC.out i hi)).mono ?_
  rintro e w' ⟨p, hs, rfl, hbel, hp⟩
  have HS : Hid (Stop zs n at_ p) := hs
  have HB : Hid (Below w.heap.size w w') := ((Below.refl _ _).alloc (Nat.le_refl _) _).trans hbel
  clear hs hbel
  generalize hbt : bAt zs n p = x at *
  have HX : Hid (bAt zs n p = x) := hbt
  clear hbt
  go_wp2
  go_quiet (fail)
  go_wp2
  go_ret2
  exact ⟨⟨p, HS.out, by rw [HX.out]; rfl⟩, HB.out.trans (below_drewN _ _ _)⟩

theorem zzpeek_any (w : World) (d : Option Addr) (n c at_ : Nat) (zs : List Int) (hat : at_ ≤ n) (hn : n ≤ 1048577) (h : Row8 w d n zs) :
    Calls Try.prog 12 #[.slice d n c, .int .i64 at_] w fun e w' => PeekRes zs n at_ e ∧ Below w.heap.size w w' := by
  rcases h with rfl | ⟨b, off, rfl, hb, hc⟩
  · obtain rfl : at_ = 0 := by omega
    exact zzpeek_zero w d c zs
  · exact zzpeek_pos w b off n c at_ zs hat hn hb hc
end Go.Proofs.Qxb6616787a
