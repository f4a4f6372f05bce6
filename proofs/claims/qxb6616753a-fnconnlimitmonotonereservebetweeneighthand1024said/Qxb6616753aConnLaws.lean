import Derived.Test.Qxb6616753aConn
import Derived.OpenShut
import Derived.Outline
import Derived.BigQuiet
namespace Go.Proofs.Qxb6616753a
open Go.ChangeShapes Go.WideShapes Go.ChangeAt Go.RowKit

set_option maxHeartbeats 400000 in
theorem steps_walk (a0 : Int) (w0 : (Lit.int .i64 a0).wf = true) (w : World) :
    Calls Try.prog 3 #[.int .i64 a0] w fun e w' => e = .returned (.bool true) ∧ Grown w w' := by
  have hw := (bounds_i64 w0).2
  by_cases hneg : a0 < 0
  · go_enter Try.func3, Try.ntmps3
    go_wp2
    go_ret
    exact ⟨rfl, Grown.refl _⟩
  have h0 : 0 ≤ a0 := by omega
  by_cases hmax : a0 = 9223372036854775807
  · subst hmax
    go_enter Try.func3, Try.ntmps3
    go_wp2
    go_ret
    exact ⟨rfl, Grown.refl _⟩
  have hne : (a0 == 9223372036854775807) = false := by simpa using hmax
  have hs := climit_step a0 h0
  have hr := climit_res a0 h0
  have hb := climit_bd a0 h0
  have hb1 := climit_bd (a0 + 1) (by omega)
  have hlt : a0 + 1 ≤ 9223372036854775807 := by omega
  clear hmax w0
  obtain ⟨c, hc⟩ : ∃ c, c = climit a0 := ⟨_, rfl⟩
  obtain ⟨d, hd⟩ : ∃ d, d = climit (a0 + 1) := ⟨_, rfl⟩
  have HC : Hid (c = climit a0) := hc
  have HD : Hid (d = climit (a0 + 1)) := hd
  rw [← hd, ← hc] at hs
  rw [← hc] at hr hb
  rw [← hd] at hb1
  clear hc hd
  obtain ⟨hr1, hr2⟩ := hr
  obtain ⟨hb1', hb2'⟩ := hb
  obtain ⟨hb3', hb4'⟩ := hb1
  rcases hs with hs | hs
  · have e0 : (d - c == 0) = true := by simpa using hs
    clear hs
    go_enter Try.func3, Try.ntmps3
    go_wp2_with fail
    refine (zzConnLimit_any _ (by omega) (by omega) _).mono ?_
    rintro e w' ⟨rfl, rfl⟩
    rw [← HC.out]
    go_wp2_with fail
    refine (zzConnLimit_any _ (by omega) (by omega) _).mono ?_
    rintro e w' ⟨rfl, rfl⟩
    rw [← HD.out]
    go_wp2_with fail
    refine (zzlMin_any _ _ _).mono ?_
    rintro e w' ⟨rfl, rfl⟩
    go_wp2
    go_ret
    exact ⟨rfl, Grown.refl _⟩
  · have e1 : (d - c == 1) = true := by simpa using hs
    have e0 : (d - c == 0) = false := by simp; omega
    clear hs
    go_enter Try.func3, Try.ntmps3
    go_wp2_with fail
    refine (zzConnLimit_any _ (by omega) (by omega) _).mono ?_
    rintro e w' ⟨rfl, rfl⟩
    rw [← HC.out]
    go_wp2_with fail
    refine (zzConnLimit_any _ (by omega) (by omega) _).mono ?_
    rintro e w' ⟨rfl, rfl⟩
    rw [← HD.out]
    go_wp2_with fail
    refine (zzlMin_any _ _ _).mono ?_
    rintro e w' ⟨rfl, rfl⟩
    go_wp2
    go_ret
    exact ⟨rfl, Grown.refl _⟩

theorem climit_mono (a b : Int) (h0 : 0 ≤ a) (h : a ≤ b) : climit a ≤ climit b ∧ climit b - climit a ≤ b - a := by
  unfold climit; omega
theorem climit_band (f : Int) (h0 : 0 ≤ f) : min (f / 8) 1024 ≤ f - climit f ∧ f - climit f ≤ min (f / 2) 1024 := by
  unfold climit; omega

set_option maxHeartbeats 400000 in
theorem band_any (f r : Int) (h0 : 0 ≤ f) (h1 : f ≤ 9223372036854775807) (hl : min (f / 8) 1024 ≤ r) (hu : r ≤ min (f / 2) 1024) (w : World) :
    Calls Try.prog 9 #[.int .i64 f, .int .i64 r] w fun e w' => e = .returned (.bool true) ∧ w' = w := by
  go_enter Try.func9, Try.ntmps9
  go_wp2_with fail
  refine (zzlMin_any _ _ _).mono ?_
  rintro e w' ⟨rfl, rfl⟩
  go_wp2_with fail
  refine (zzlMin_any _ _ _).mono ?_
  rintro e w' ⟨rfl, rfl⟩
  go_wp2
  go_ret
  exact ⟨rfl, rfl⟩

set_option maxHeartbeats 400000 in
theorem mono_walk_le (a0 a1 : Int) (l1 : 0 ≤ a0) (l2 : a0 ≤ 9223372036854775807) (l3 : 0 ≤ a1) (l4 : a1 ≤ 9223372036854775807) (w : World) :
    Calls Try.prog 4 #[.int .i64 a0, .int .i64 a1] w fun e w' => e = .returned (.bool true) ∧ Grown w w' := by
  by_cases hle : a1 < a0
  all_goals
    have hba := climit_band a0 l1
    have hbb := climit_band a1 l3
    have hda := climit_bd a0 l1
    have hdb := climit_bd a1 l3
    obtain ⟨hba1, hba2⟩ := hba
    obtain ⟨hbb1, hbb2⟩ := hbb
    obtain ⟨hda1, hda2⟩ := hda
    obtain ⟨hdb1, hdb2⟩ := hdb
    obtain ⟨c, hc⟩ : ∃ c, c = climit a0 := ⟨_, rfl⟩
    obtain ⟨d, hd⟩ : ∃ d, d = climit a1 := ⟨_, rfl⟩
    have HC : Hid (c = climit a0) := hc
    have HD : Hid (d = climit a1) := hd
  · obtain ⟨hm1, hm2⟩ := climit_mono a1 a0 l3 (by omega)
    rw [← hc] at hba1 hba2 hda1 hda2 hm1 hm2
    rw [← hd] at hbb1 hbb2 hdb1 hdb2 hm1 hm2
    clear hc hd
    go_enter Try.func4, Try.ntmps4
    go_wp2_with fail
    refine (zzConnLimit_any _ (by omega) (by omega) _).mono ?_
    rintro e w' ⟨rfl, rfl⟩
    rw [← HD.out]
    go_wp2_with fail
    refine (zzConnLimit_any _ (by omega) (by omega) _).mono ?_
    rintro e w' ⟨rfl, rfl⟩
    rw [← HC.out]
    go_wp2_with fail
    refine (band_any _ _ (by omega) (by omega) (by omega) (by omega) _).mono ?_
    rintro e w' ⟨rfl, rfl⟩
    go_wp2_with fail
    refine (band_any _ _ (by omega) (by omega) (by omega) (by omega) _).mono ?_
    rintro e w' ⟨rfl, rfl⟩
    go_wp2
    go_ret
    exact ⟨rfl, Grown.refl _⟩
  · obtain ⟨hm1, hm2⟩ := climit_mono a0 a1 l1 (by omega)
    rw [← hc] at hba1 hba2 hda1 hda2 hm1 hm2
    rw [← hd] at hbb1 hbb2 hdb1 hdb2 hm1 hm2
    clear hc hd
    go_enter Try.func4, Try.ntmps4
    go_wp2_with fail
    refine (zzConnLimit_any _ (by omega) (by omega) _).mono ?_
    rintro e w' ⟨rfl, rfl⟩
    rw [← HC.out]
    go_wp2_with fail
    refine (zzConnLimit_any _ (by omega) (by omega) _).mono ?_
    rintro e w' ⟨rfl, rfl⟩
    rw [← HD.out]
    go_wp2_with fail
    refine (band_any _ _ (by omega) (by omega) (by omega) (by omega) _).mono ?_
    rintro e w' ⟨rfl, rfl⟩
    go_wp2_with fail
    refine (band_any _ _ (by omega) (by omega) (by omega) (by omega) _).mono ?_
    rintro e w' ⟨rfl, rfl⟩
    go_wp2
    go_ret
    exact ⟨rfl, Grown.refl _⟩

set_option maxHeartbeats 400000 in
theorem mono_walk (a0 a1 : Int) (w0 : (Lit.int .i64 a0).wf = true) (w1 : (Lit.int .i64 a1).wf = true) (w : World) :
    Calls Try.prog 4 #[.int .i64 a0, .int .i64 a1] w fun e w' => e = .returned (.bool true) ∧ Grown w w' := by
  have ha := bounds_i64 w0
  have hb := bounds_i64 w1
  by_cases hneg : a0 < 0
  · go_enter Try.func4, Try.ntmps4
    go_wp2
    go_ret
    exact ⟨rfl, Grown.refl _⟩
  by_cases hneg1 : a1 < 0
  · go_enter Try.func4, Try.ntmps4
    go_wp2
    go_ret
    exact ⟨rfl, Grown.refl _⟩
  exact mono_walk_le a0 a1 (by omega) ha.2 (by omega) hb.2 w
end Go.Proofs.Qxb6616753a
