import Derived.Test.Qxb6616753aNewRank
namespace Go.Proofs.Qxb6616753a
open Go.ChangeShapes Go.WideShapes Go.ChangeAt Go.RowKit
set_option linter.unusedSimpArgs false
set_option linter.unusedVariables false

/-- The end is a Bool; where it is true, p holds. -/
def OkRes (e : Ending) (p : Prop) : Prop := ∃ r : Bool, e = .returned (.bool r) ∧ (r = true → p)
theorem OkRes.no {p : Prop} : OkRes (.returned (.bool false)) p := ⟨false, rfl, fun h => by cases h⟩
theorem OkRes.yes {p : Prop} (h : p) : OkRes (.returned (.bool true)) p := ⟨true, rfl, fun _ => h⟩

/-- The first n of zs rise strictly. -/
def Inc (zs : List Int) (n : Nat) : Prop := ∀ i, 0 < i → i < n → zs.getD (i - 1) 0 < zs.getD i 0

theorem Inc.le0 {zs : List Int} {n : Nat} (h : Inc zs n) : ∀ i, 0 < i → i < n → zs.getD 0 0 < zs.getD i 0
  | 0, h0, _ => absurd h0 (by omega)
  | 1, _, h1 => h 1 (by omega) h1
  | i + 2, _, h1 => by
    have a := h (i + 2) (by omega) h1
    have b := Inc.le0 h (i + 1) (by omega) (by omega)
    simp only [show i + 2 - 1 = i + 1 from by omega] at a
    omega

set_option maxHeartbeats 1000000 in
set_option maxRecDepth 100000 in
theorem increasing_any (w : World) (G off n cap : Nat) (zs : List Int) (hn : n ≤ 1048576)
    (hc : ∀ i, i < n → w.cell? ⟨G, off + i, none⟩ = some (.int .u64 (zs.getD i 0))) :
    Calls Try.prog 17 #[.slice (some ⟨G, off, none⟩) n cap] w fun e w' => OkRes e (Inc zs n) ∧ ∃ m, w' = w.drewN m := by
  have HC : Hid (∀ i, i < n → w.cell? ⟨G, off + i, none⟩ = some (.int .u64 (zs.getD i 0))) := hc
  clear hc
  go_enter Try.func17, Try.ntmps17
  go_wp2
  go_loopw [3] (fun v wr => ∃ k m : Nat, 1 ≤ k ∧ (k ≤ n ∨ k = 1) ∧ v = .int .i64 k ∧ wr = w.drewN m ∧ (∀ i, 0 < i → i < k → zs.getD (i - 1) 0 < zs.getD i 0)) (fun v _ => n - (intOf v).toNat)
  case atStart => exact ⟨1, 0, by omega, by omega, rfl, rfl, fun i h1 h2 => by omega⟩
  case round =>
    obtain ⟨k, m, hk1, hk2, rfl, rfl, hinc⟩ := hrel
    have HI : Hid (∀ i, 0 < i → i < k → zs.getD (i - 1) 0 < zs.getD i 0) := hinc
    clear hinc
    by_cases hkn : k < n
    · have ha : w.cell? ⟨G, off + (k - 1), none⟩ = some (.int .u64 (zs.getD (k - 1) 0)) := HC.out (k - 1) (by omega)
      have hb : w.cell? ⟨G, off + k, none⟩ = some (.int .u64 (zs.getD k 0)) := HC.out k hkn
      generalize hx : zs.getD (k - 1) 0 = x at *
      generalize hy : zs.getD k 0 = y at *
      have HX : Hid (zs.getD (k - 1) 0 = x) := hx
      have HY : Hid (zs.getD k 0 = y) := hy
      clear hx hy
      obtain ⟨j, rfl⟩ : ∃ j, k = j + 1 := ⟨k - 1, by omega⟩
      simp only [Nat.add_sub_cancel] at ha
      have hi1 : (j : Int) + 1 < n := by omega
      have hi2 : (j : Int) < n := by omega
      go_wp2
      go_quiet (fail)
      go_wp2
      · go_ret
        exact ⟨OkRes.no, _, by first | rfl | exact World.drewN_drewN _ _ _⟩
      · go_roundw
        case rel =>
          refine ⟨j + 1 + 1, m + nq, by omega, by omega, by go_num, rfl, fun i h1 h2 => ?_⟩
          by_cases hij : i = j + 1
          · subst hij
            have e1 := HX.out
            have e2 := HY.out
            rw [e1, e2]
            assumption
          · exact HI.out i h1 (by omega)
        case measure => simp [intOf]; omega
    · have hd : ¬ (k : Int) < n := by omega
      go_wp2
      go_ret
      exact ⟨OkRes.yes (fun i h1 h2 => HI.out i h1 (by omega)), _, rfl⟩

set_option maxHeartbeats 1000000 in
set_option maxRecDepth 100000 in
theorem rankOK_any (w : World) (count : Int) (G off n cap : Nat) (zs : List Int) (hn : n ≤ 1048576)
    (hc : ∀ i, i < n → w.cell? ⟨G, off + i, none⟩ = some (.int .u64 (zs.getD i 0))) :
    Calls Try.prog 11 #[.int .i64 count, .slice (some ⟨G, off, none⟩) n cap] w fun e w' => OkRes e (0 < n ∧ (n : Int) ≤ count ∧ Inc zs n) ∧ ∃ m, w' = w.drewN m := by
  have HN : Hid (∀ w : World, (∀ i, i < n → w.cell? ⟨G, off + i, none⟩ = some (.int .u64 (zs.getD i 0))) → Calls Try.prog 17 #[.slice (some ⟨G, off, none⟩) n cap] w fun e w' => OkRes e (Inc zs n) ∧ ∃ m, w' = w.drewN m) := fun w h => increasing_any w G off n cap zs hn h
  have HC : Hid (∀ i, i < n → w.cell? ⟨G, off + i, none⟩ = some (.int .u64 (zs.getD i 0))) := hc
  clear hc
  by_cases h0 : 0 < n
  · by_cases h1 : (n : Int) ≤ count
    · have hd0 : decide ((0 : Int) < (n : Int)) = true := by simp; omega
      have hd1 : decide ((n : Int) ≤ count) = true := by simp; omega
      go_enter Try.func11, Try.ntmps11
      go_wp2_with fail
      refine (HN.out _ HC.out).mono ?_
      rintro e w' ⟨⟨r, rfl, hr⟩, m, rfl⟩
      go_wp2
      go_ret
      exact ⟨⟨r, rfl, fun h => ⟨h0, h1, hr h⟩⟩, _, rfl⟩
    · have hd0 : decide ((0 : Int) < (n : Int)) = true := by simp; omega
      have hd1 : decide ((n : Int) ≤ count) = false := by simp; omega
      go_enter Try.func11, Try.ntmps11
      go_wp2
      go_ret
      exact ⟨OkRes.no, 0, rfl⟩
  · have hd0 : decide ((0 : Int) < (n : Int)) = false := by simp; omega
    go_enter Try.func11, Try.ntmps11
    go_wp2
    go_ret
    exact ⟨OkRes.no, 0, rfl⟩

set_option maxHeartbeats 1000000 in
theorem rankOK_nil (w : World) (count : Int) :
    Calls Try.prog 11 #[.int .i64 count, .slice none 0 0] w fun e w' => e = .returned (.bool false) ∧ w' = w := by
  go_enter Try.func11, Try.ntmps11
  go_wp2
  go_ret
  exact ⟨rfl, rfl⟩

set_option maxHeartbeats 1000000 in
set_option maxRecDepth 100000 in
theorem firstToGive_any (w : World) (s G off n cap : Nat) (zs : List Int) (hs : s ≤ 2) (hn : n ≤ 1048576) (h0 : 0 < n) (hi : Inc zs n)
    (hc : ∀ i, i < n → w.cell? ⟨G, off + i, none⟩ = some (.int .u64 (zs.getD i 0))) :
    Calls Try.prog 13 #[.int .i64 s, .slice (some ⟨G, off, none⟩) n cap] w fun e w' => e = .returned (.int .u64 (gOf s (zs.getD 0 0) (zs.getD (n - 1) 0))) ∧ w' = w := by
  have hc0 := hc 0 h0
  simp only [Nat.add_zero] at hc0
  have HC : Hid (∀ i, i < n → w.cell? ⟨G, off + i, none⟩ = some (.int .u64 (zs.getD i 0))) := hc
  have HI : Hid (Inc zs n) := hi
  clear hc hi
  have hn0 : (0 : Int) < n := by omega
  generalize hzz : zs.getD 0 0 = z0 at *
  have HZ : Hid (zs.getD 0 0 = z0) := hzz
  clear hzz
  by_cases h2 : s = 2
  · subst h2
    go_enter Try.func13, Try.ntmps13
    go_wp2
    go_loop [5, 6] (fun v i => ∃ k : Nat, 1 ≤ k ∧ k ≤ n ∧ i = .int .i64 k ∧ v = .int .u64 (zs.getD (k - 1) 0)) (fun _ i => n - (intOf i).toNat)
    case atStart => exact ⟨1, by omega, by omega, rfl, by rw [show 1 - 1 = 0 from rfl, HZ.out]⟩
    case round =>
      obtain ⟨k, hk1, hk2, rfl, rfl⟩ := hrel
      by_cases hkn : k < n
      · have ha := HC.out k hkn
        have hlt := HI.out k (by omega) hkn
        generalize zs.getD (k - 1) 0 = x at *
        generalize hy : zs.getD k 0 = y at *
        have HY : Hid (zs.getD k 0 = y) := hy
        clear hy
        have hik : (k : Int) < n := by omega
        go_wp2
        go_round
        case rel => exact ⟨k + 1, by omega, by omega, by go_num, by rw [Nat.add_sub_cancel, HY.out]⟩
        case measure => simp [intOf]; omega
      · have hd : ¬ (k : Int) < n := by omega
        have hkk : k = n := by omega
        subst hkk
        go_wp2
        go_ret
        exact ⟨by simp [gOf], rfl⟩
  · have hs2 : ((s : Int) == 2) = false := by simp; omega
    go_enter Try.func13, Try.ntmps13
    go_wp2
    go_loop [5, 6] (fun v i => ∃ k : Nat, 1 ≤ k ∧ k ≤ n ∧ i = .int .i64 k ∧ v = .int .u64 z0) (fun _ i => n - (intOf i).toNat)
    case atStart => exact ⟨1, by omega, by omega, rfl, rfl⟩
    case round =>
      obtain ⟨k, hk1, hk2, rfl, rfl⟩ := hrel
      by_cases hkn : k < n
      · have ha := HC.out k hkn
        have hlt := HI.out.le0 k (by omega) hkn
        rw [HZ.out] at hlt
        generalize zs.getD k 0 = y at *
        have hlt' : ¬ y < z0 := by omega
        have hik : (k : Int) < n := by omega
        go_wp2
        go_round
        case rel => exact ⟨k + 1, by omega, by omega, by go_num, rfl⟩
        case measure => simp [intOf]; omega
      · have hd : ¬ (k : Int) < n := by omega
        go_wp2
        go_ret
        exact ⟨by simp [gOf, h2], rfl⟩
end Go.Proofs.Qxb6616753a
