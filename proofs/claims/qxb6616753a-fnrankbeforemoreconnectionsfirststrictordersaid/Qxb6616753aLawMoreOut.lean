import Derived.Test.Qxb6616753aLawMore
namespace Go.Proofs.Qxb6616753a
open Go.ChangeShapes Go.WideShapes Go.ChangeAt Go.RowKit
set_option linter.unusedSimpArgs false
set_option linter.unusedVariables false

set_option maxHeartbeats 1000000 in
set_option maxRecDepth 100000 in
/-- One of the three is empty: the law answers true ahead of all else. -/
theorem law6_empty (ca cb cc : Int) (s : Nat) (hs : s ≤ 2) (a a' a'' : Option Addr) (n c n' c' n'' c'' : Nat) (zs zs' zs'' : List Int) (w : World) (hn : n + n' + n'' ≤ 131072) (h : RowAt w a n zs) (h' : RowAt w a' n' zs') (h'' : RowAt w a'' n'' zs'') (h0 : n = 0 ∨ n' = 0 ∨ n'' = 0) :
    Calls Try.prog 6 #[.int .i64 ca, .int .i64 cb, .int .i64 cc, .int .i64 s, .slice a n c, .slice a' n' c', .slice a'' n'' c''] w fun e w' => e = .returned (.bool true) ∧ Below w.heap.size w w' := by
  have H : Hid (RowAt w a n zs) := h
  have H' : Hid (RowAt w a' n' zs') := h'
  have H'' : Hid (RowAt w a'' n'' zs'') := h''
  have H0 : Hid (n = 0 ∨ n' = 0 ∨ n'' = 0) := h0
  clear h h' h'' h0
  have hd1 : decide ((131072 : Int) < n) = false := decide_eq_false (by omega)
  have hd2 : decide ((131072 : Int) < n') = false := decide_eq_false (by omega)
  have hd2' : decide ((131072 : Int) < n'') = false := decide_eq_false (by omega)
  have hd2'' : decide ((131072 : Int) < (n : Int) + n' + n'') = false := decide_eq_false (by omega)
  have hd3 : decide ((s : Int) < 0) = false := decide_eq_false (by omega)
  have hd4 : decide ((2 : Int) < s) = false := decide_eq_false (by omega)
  go_enter Try.func6, Try.ntmps6
  go_wp2_with fail
  refine (bytes6_any w ca cb cc s _ _ _ n c n' c' n'' c'' (by unfold maxLen; omega) (by unfold maxLen; omega) (by unfold maxLen; omega)).mono ?_
  rintro e w' ⟨⟨r, rfl, hr⟩, rfl⟩
  cases r with
  | false =>
    go_wp2
    go_ret
    exact ⟨rfl, Below.refl _ _⟩
  | true =>
    clear hr
    go_wp2_with fail
    refine (rankOK_row _ ca a n c zs (by omega) (by exact H.out)).mono ?_
    rintro e w1 ⟨⟨r, rfl, hr⟩, m, rfl⟩
    cases r with
    | false =>
      go_wp2
      go_ret
      exact ⟨rfl, below_drewN _ _ _⟩
    | true =>
      have HI : Hid (0 < n) := (hr rfl).1
      clear hr
      go_wp2_with fail
      refine (rankOK_row _ cb a' n' c' zs' (by omega) (by exact H'.out.drewN _)).mono ?_
      rintro e w1 ⟨⟨r, rfl, hr⟩, m', rfl⟩
      cases r with
      | false =>
        go_wp2
        go_ret
        exact ⟨rfl, below_drewN _ _ _⟩
      | true =>
        have HI' : Hid (0 < n') := (hr rfl).1
        clear hr
        go_wp2_with fail
        refine (rankOK_row _ cc a'' n'' c'' zs'' (by omega) (by exact H''.out.drewN _)).mono ?_
        rintro e w1 ⟨⟨r, rfl, hr⟩, m'', rfl⟩
        cases r with
        | false =>
          go_wp2
          go_ret
          exact ⟨rfl, below_drewN _ _ _⟩
        | true =>
          exfalso
          have i1 := HI.out
          have i2 := HI'.out
          have i3 := (hr rfl).1
          have i0 := H0.out
          omega

set_option maxHeartbeats 1000000 in
set_option maxRecDepth 100000 in
/-- The lengths or the standing are out of the law's reach: true at once. -/
theorem law6_out (ca cb cc st : Int) (a a' a'' : Option Addr) (n c n' c' n'' c'' : Nat) (w : World) (hn : n ≤ maxLen) (hn' : n' ≤ maxLen) (hn'' : n'' ≤ maxLen) (ho : 131072 < n + n' + n'' ∨ st < 0 ∨ 2 < st) :
    Calls Try.prog 6 #[.int .i64 ca, .int .i64 cb, .int .i64 cc, .int .i64 st, .slice a n c, .slice a' n' c', .slice a'' n'' c''] w fun e w' => e = .returned (.bool true) ∧ Below w.heap.size w w' := by
  have HO : Hid (131072 < n + n' + n'' ∨ st < 0 ∨ 2 < st) := ho
  clear ho
  have HM : Hid (n ≤ maxLen ∧ n' ≤ maxLen ∧ n'' ≤ maxLen) := ⟨hn, hn', hn''⟩
  unfold maxLen at hn hn' hn''
  by_cases k1 : (131072 : Int) < n
  · go_enter Try.func6, Try.ntmps6
    go_wp2_with fail
    refine (bytes6_any w ca cb cc st _ _ _ n c n' c' n'' c'' HM.out.1 HM.out.2.1 HM.out.2.2).mono ?_
    rintro e w' ⟨⟨r, rfl, hr⟩, rfl⟩
    cases r
    all_goals
      clear hr
      go_wp2
      go_ret
      exact ⟨rfl, Below.refl _ _⟩
  by_cases k2 : (131072 : Int) < n'
  · go_enter Try.func6, Try.ntmps6
    go_wp2_with fail
    refine (bytes6_any w ca cb cc st _ _ _ n c n' c' n'' c'' HM.out.1 HM.out.2.1 HM.out.2.2).mono ?_
    rintro e w' ⟨⟨r, rfl, hr⟩, rfl⟩
    cases r
    all_goals
      clear hr
      go_wp2
      go_ret
      exact ⟨rfl, Below.refl _ _⟩
  by_cases k3 : (131072 : Int) < n''
  · go_enter Try.func6, Try.ntmps6
    go_wp2_with fail
    refine (bytes6_any w ca cb cc st _ _ _ n c n' c' n'' c'' HM.out.1 HM.out.2.1 HM.out.2.2).mono ?_
    rintro e w' ⟨⟨r, rfl, hr⟩, rfl⟩
    cases r
    all_goals
      clear hr
      go_wp2
      go_ret
      exact ⟨rfl, Below.refl _ _⟩
  by_cases k4 : (131072 : Int) < (n : Int) + n' + n''
  · go_enter Try.func6, Try.ntmps6
    go_wp2_with fail
    refine (bytes6_any w ca cb cc st _ _ _ n c n' c' n'' c'' HM.out.1 HM.out.2.1 HM.out.2.2).mono ?_
    rintro e w' ⟨⟨r, rfl, hr⟩, rfl⟩
    cases r
    all_goals
      clear hr
      go_wp2
      go_ret
      exact ⟨rfl, Below.refl _ _⟩
  by_cases k5 : st < 0
  · go_enter Try.func6, Try.ntmps6
    go_wp2_with fail
    refine (bytes6_any w ca cb cc st _ _ _ n c n' c' n'' c'' HM.out.1 HM.out.2.1 HM.out.2.2).mono ?_
    rintro e w' ⟨⟨r, rfl, hr⟩, rfl⟩
    cases r
    all_goals
      clear hr
      go_wp2
      go_ret
      exact ⟨rfl, Below.refl _ _⟩
  have k6 : 2 < st := by have := HO.out; omega
  go_enter Try.func6, Try.ntmps6
  go_wp2_with fail
  refine (bytes6_any w ca cb cc st _ _ _ n c n' c' n'' c'' HM.out.1 HM.out.2.1 HM.out.2.2).mono ?_
  rintro e w' ⟨⟨r, rfl, hr⟩, rfl⟩
  cases r
  all_goals
    clear hr
    go_wp2
    go_ret
    exact ⟨rfl, Below.refl _ _⟩

theorem law6_any (ca cb cc st : Int) (a a' a'' : Option Addr) (n c n' c' n'' c'' : Nat) (zs zs' zs'' : List Int) (w : World) (hn : n ≤ maxLen) (hn' : n' ≤ maxLen) (hn'' : n'' ≤ maxLen) (h : RowAt w a n zs) (h' : RowAt w a' n' zs') (h'' : RowAt w a'' n'' zs'') :
    Calls Try.prog 6 #[.int .i64 ca, .int .i64 cb, .int .i64 cc, .int .i64 st, .slice a n c, .slice a' n' c', .slice a'' n'' c''] w fun e w' => e = .returned (.bool true) ∧ Below w.heap.size w w' := by
  by_cases ho : 131072 < n + n' + n'' ∨ st < 0 ∨ 2 < st
  · exact law6_out ca cb cc st a a' a'' n c n' c' n'' c'' w hn hn' hn'' ho
  obtain ⟨s, rfl⟩ := Int.eq_ofNat_of_zero_le (show 0 ≤ st by omega)
  by_cases h0 : n = 0 ∨ n' = 0 ∨ n'' = 0
  · exact law6_empty ca cb cc s (by omega) a a' a'' n c n' c' n'' c'' zs zs' zs'' w (by omega) h h' h'' h0
  rcases h with h | ⟨b, off, rfl, hb, hc⟩
  · omega
  rcases h' with h' | ⟨b', off', rfl, hb', hc'⟩
  · omega
  rcases h'' with h'' | ⟨b'', off'', rfl, hb'', hc''⟩
  · omega
  exact law6_main ca cb cc s (by omega) b off b' off' b'' off'' n c n' c' n'' c'' zs zs' zs'' w (by omega) (by omega) (by omega) (by omega) hb hb' hb'' hc hc' hc''
end Go.Proofs.Qxb6616753a
