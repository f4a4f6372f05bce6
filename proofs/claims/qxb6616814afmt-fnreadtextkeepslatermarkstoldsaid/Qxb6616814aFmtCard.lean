import Derived.Test.Qxb6616814aFmtLaw3
import Derived.Test.Qxb6616814aFmtTie
import Derived.Test.Qxb6616814aFmtCards
import Derived.OpenShut
import Derived.ChangeOld
import Derived.LaidMore
import Derived.Stop.JoinedTold
import Derived.Stop.LaidErr
import Derived.Deep.DeepWitnessRef
import Derived.SevenTiedAt
namespace Go.Proofs.Qxb6616814aFmt
open Go.ChangeShapes Go.WideShapes Go.ChangeAt Go.RowKit
open Go.Extern.Stop Go.Stop Go.Extern
set_option linter.unusedVariables false

theorem own : ownKnob Tryf.prog.godebug = none := by kernel_rfl
theorem laidOut : laidOutB Tryf.prog = true := by kernel_rfl
theorem tstops : Tryf.pinned.checked.prog.stops = ["fmt.errorf"] := by kernel_rfl
theorem tknobs : Tryf.pinned.checked.prog.stopKnobs = [] := by kernel_rfl
theorem tquiet (os : Os) : Stop.quiet Tryf.pinned.checked.prog os := by
  intro k hk
  rw [tknobs] at hk
  cases hk

/-- WHAT THE WALK IS TOLD OF A SLICE OF INTEGERS THAT CAME IN. -/
def IsRow (k : IntKind) (w : World) (a : Option Addr) (len cap : Nat) (zs : List Int) : Prop :=
  (a = none ∧ len = 0 ∧ cap = 0 ∧ zs = []) ∨
  ∃ x, a = some x ∧ len ≤ cap ∧ cap ≤ maxLen ∧ zs.length = cap ∧ (∀ i, i < zs.length → w.cell? (x.add i) = some (.int k (zs.getD i 0))) ∧ ∀ n ∈ zs, (Lit.int k n).wf = true

theorem isRow_len {w : World} {a : Option Addr} {len cap : Nat} {zs : List Int} (h : IsRow .u8 w a len cap zs) : len ≤ maxLen := by
  rcases h with ⟨_, rfl, _, _⟩ | ⟨x, _, h1, h2, _⟩
  · unfold maxLen; omega
  · omega

theorem isRow_by {w : World} {a : Option Addr} {len cap : Nat} {zs : List Int} (h : IsRow .u8 w a len cap zs) (hl : len ≤ 1048576) : ∃ xs : List Int, xs.length = len ∧ By w a xs := by
  rcases h with ⟨_, rfl, _, _⟩ | ⟨x, rfl, h1, h2, h3, h4, h5⟩
  · refine ⟨[], rfl, .inl rfl, fun j => ?_, by simp⟩
    simp
  · have hlen : (zs.take len).length = len := by rw [List.length_take]; omega
    have hget : ∀ i, i < len → (zs.take len).getD i 0 = zs.getD i 0 := fun i hi => by simp [List.getD_eq_getElem?_getD, hi]
    refine ⟨zs.take len, hlen, ?_, fun j => ?_, by omega⟩
    · by_cases h0 : len = 0
      · exact .inl (by rw [hlen]; exact h0)
      · obtain ⟨b, off, spot⟩ := x
        have h00 := h4 0 (by omega)
        have hspot : spot = none := by simpa [Addr.add] using World.cell?_spot h00
        subst hspot
        have e : ∀ i, (⟨b, off, none⟩ : Addr).add i = ⟨b, off + i, none⟩ := fun i => by unfold Addr.add; split <;> simp_all
        refine .inr ⟨b, off, rfl, ?_, fun i hi => ?_⟩
        · by_cases hb : b < w.heap.size
          · exact hb
          · exfalso
            rw [e] at h00
            simp [World.cell?, Array.getElem?_eq_none (show w.heap.size ≤ b by omega)] at h00
        · rw [hlen] at hi
          rw [hget i hi, ← e]; exact h4 i (by omega)
    · by_cases hj : j < len
      · rw [hget j hj]
        have hm : zs.getD j 0 ∈ zs := by
          rw [List.getD_eq_getElem?_getD, List.getElem?_eq_getElem (by omega)]
          exact List.getElem_mem _
        have := h5 _ hm
        simp [Lit.wf] at this
        have e1 : IntKind.u8.min = 0 := rfl
        have e2 : IntKind.u8.max = 255 := rfl
        rw [e1, e2] at this
        rw [List.getD_eq_getElem?_getD]; exact this
      · rw [List.getD_eq_getElem?_getD, List.getElem?_eq_none (by omega)]; decide

theorem star : "*" ++ "errors.errorString" = "*errors.errorString" := by decide
theorem row60 (u : TypeId) (h : Tryf.prog.typeName? 3 u = some "*errors.errorString") : u = 60 :=
  typeName_ptr_named (nm := "errors.errorString") (by rw [star]; kernel_rfl) (by kernel_rfl) (by decide) u (by rw [star]; exact h)

theorem eof_of_var {W : World} {a0 : Addr} (hv0 : W.var? Tryf.prog "io.EOF" = some #[.iface 60 (.pointer (some a0))]) : EofAt W a0 := by
  have hg0 : Tryf.prog.globalNamed "io.EOF" = some 0 := by kernel_rfl
  exact World.var?_cell hg0 hv0 0
end Go.Proofs.Qxb6616814aFmt
