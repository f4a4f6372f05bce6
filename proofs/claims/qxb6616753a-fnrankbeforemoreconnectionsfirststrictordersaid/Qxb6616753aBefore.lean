import Derived.Test.Qxb6616753aPush
import Derived.Deep.RegionWith
namespace Go.Proofs.Qxb6616753a
open Go.ChangeShapes Go.WideShapes Go.ChangeAt Go.RowKit
set_option linter.unusedSimpArgs false
set_option linter.unusedVariables false

/-- What lies in memory at a rank of standing s that ZZnewRank made: the source in block B, the element that is first to go in block E, its connection in block C, that one's given: g. -/
structure RankAt (w : World) (s : Nat) (count : Int) (B E1 En C1 Cn : Nat) (n g1 gn : Int) : Prop where
  cnt : w.cell? ⟨B, 3, none⟩ = some (.int .i64 count)
  src : w.cell? ⟨B, 19 + 3 * s, none⟩ = some (.pointer (some ⟨B, 0, none⟩))
  std : w.cell? ⟨B, 20 + 3 * s, none⟩ = some (.int .i64 s)
  len : w.cell? ⟨B, 8 + 5 * s, none⟩ = some (.int .i64 n)
  pos : 0 < n
  first : w.cell? ⟨B, 4 + 5 * s, none⟩ = some (.pointer (some ⟨E1, 0, none⟩))
  last : w.cell? ⟨B, 5 + 5 * s, none⟩ = some (.pointer (some ⟨En, 0, none⟩))
  v1 : w.cell? ⟨E1, 3, none⟩ = some (.iface 62 (.pointer (some ⟨C1, 0, none⟩)))
  vn : w.cell? ⟨En, 3, none⟩ = some (.iface 62 (.pointer (some ⟨Cn, 0, none⟩)))
  k1 : w.cell? ⟨C1, 18, none⟩ = some (.int .u64 g1)
  kn : w.cell? ⟨Cn, 18, none⟩ = some (.int .u64 gn)

@[go_sem] theorem assert62 (v : Value) (w : World) : (Instr.typeAssert (.iface 62 v) 20 62 false).run Try.prog w = .ok v w := by kernel_rfl

set_option maxHeartbeats 1000000 in
set_option maxRecDepth 100000 in
theorem next0 (w : World) (count : Int) (B E1 En C1 Cn : Nat) (n g1 gn : Int) (h : RankAt w 0 count B E1 En C1 Cn n g1 gn) :
    Calls Try.prog 22 #[.pointer (some ⟨B, 19, none⟩)] w fun e w' => e = .returned (.pointer (some ⟨C1, 0, none⟩)) ∧ ∃ m, w' = w.drewN m := by
  obtain ⟨h1, h2, h3, h4, h5, h6, h7, h8, h9, h10, h11⟩ := h
  simp only [Nat.mul_zero, Nat.add_zero] at h2 h3 h4 h6 h7
  have hn : (n == 0) = false := by simp; omega
  go_enter Try.func22, Try.ntmps22
  go_wp2
  go_quiet (fail)
  go_wp2
  go_ret
  exact ⟨rfl, _, rfl⟩

set_option maxHeartbeats 1000000 in
set_option maxRecDepth 100000 in
theorem next1 (w : World) (count : Int) (B E1 En C1 Cn : Nat) (n g1 gn : Int) (h : RankAt w 1 count B E1 En C1 Cn n g1 gn) :
    Calls Try.prog 22 #[.pointer (some ⟨B, 22, none⟩)] w fun e w' => e = .returned (.pointer (some ⟨C1, 0, none⟩)) ∧ ∃ m, w' = w.drewN m := by
  obtain ⟨h1, h2, h3, h4, h5, h6, h7, h8, h9, h10, h11⟩ := h
  simp only [Nat.mul_one, Nat.reduceAdd] at h2 h3 h4 h6 h7
  have hn : (n == 0) = false := by simp; omega
  go_enter Try.func22, Try.ntmps22
  go_wp2
  go_quiet (fail)
  go_wp2
  go_ret
  exact ⟨rfl, _, rfl⟩

set_option maxHeartbeats 1000000 in
set_option maxRecDepth 100000 in
theorem next2 (w : World) (count : Int) (B E1 En C1 Cn : Nat) (n g1 gn : Int) (h : RankAt w 2 count B E1 En C1 Cn n g1 gn) :
    Calls Try.prog 22 #[.pointer (some ⟨B, 25, none⟩)] w fun e w' => e = .returned (.pointer (some ⟨Cn, 0, none⟩)) ∧ ∃ m, w' = w.drewN m := by
  obtain ⟨h1, h2, h3, h4, h5, h6, h7, h8, h9, h10, h11⟩ := h
  simp only [Nat.reduceMul, Nat.reduceAdd] at h2 h3 h4 h6 h7
  have hn : (n == 0) = false := by simp; omega
  go_enter Try.func22, Try.ntmps22
  go_wp2
  go_quiet (fail)
  go_wp2
  go_ret
  exact ⟨rfl, _, rfl⟩

/-- A world that has drawn holds the same. -/
theorem RankAt.drewN {w : World} {s : Nat} {count : Int} {B E1 En C1 Cn : Nat} {n g1 gn : Int} (h : RankAt w s count B E1 En C1 Cn n g1 gn) (m : Nat) : RankAt (w.drewN m) s count B E1 En C1 Cn n g1 gn :=
  ⟨h.cnt, h.src, h.std, h.len, h.pos, h.first, h.last, h.v1, h.vn, h.k1, h.kn⟩

/-- Which of the two goes first. -/
def gOf (s : Nat) (g1 gn : Int) : Int := if s = 2 then gn else g1
def cOf (s : Nat) (C1 Cn : Nat) : Nat := if s = 2 then Cn else C1

theorem next_any (w : World) (s : Nat) (hs : s ≤ 2) (count : Int) (B E1 En C1 Cn : Nat) (n g1 gn : Int) (h : RankAt w s count B E1 En C1 Cn n g1 gn) :
    Calls Try.prog 22 #[.pointer (some ⟨B, 19 + 3 * s, none⟩)] w fun e w' => e = .returned (.pointer (some ⟨cOf s C1 Cn, 0, none⟩)) ∧ ∃ m, w' = w.drewN m := by
  obtain rfl | rfl | rfl : s = 0 ∨ s = 1 ∨ s = 2 := by omega
  · exact next0 w count B E1 En C1 Cn n g1 gn h
  · exact next1 w count B E1 En C1 Cn n g1 gn h
  · exact next2 w count B E1 En C1 Cn n g1 gn h

theorem RankAt.kOf {w : World} {s : Nat} {count : Int} {B E1 En C1 Cn : Nat} {n g1 gn : Int} (h : RankAt w s count B E1 En C1 Cn n g1 gn) :
    w.cell? ⟨cOf s C1 Cn, 18, none⟩ = some (.int .u64 (gOf s g1 gn)) := by
  unfold cOf gOf
  split
  · exact h.kn
  · exact h.k1

theorem quiet_more {P : Program} {f : FuncId} {args : Array Value} {w : World} {q n : Nat} {v : Value}
    (h : Calls P f args (w.drewN (q + n)) fun e w' => e = .returned v ∧ ∃ m, w' = (w.drewN (q + n)).drewN m) : Calls P f args (w.drewN (q + n)) fun e w'' => e = .returned v ∧ ∃ m, w'' = w.drewN (q + m) :=
  h.mono fun _ _ ⟨he, m, hm⟩ => ⟨he, n + m, by rw [hm, World.drewN_drewN, Nat.add_assoc]⟩

/-- Does the one come ahead of the other? -/
def bef (ca cb ka kb : Int) : Bool := if ca = cb then decide (ka < kb) else decide (cb < ca)

set_option maxHeartbeats 1000000 in
set_option maxRecDepth 100000 in
theorem before_ne (w : World) (s : Nat) (hs : s ≤ 2) (ca cb : Int) (B E1 En C1 Cn : Nat) (n g1 gn : Int) (h : RankAt w s ca B E1 En C1 Cn n g1 gn)
    (B' E1' En' C1' Cn' : Nat) (n' g1' gn' : Int) (h' : RankAt w s cb B' E1' En' C1' Cn' n' g1' gn') (hne : ca ≠ cb) :
    Calls Try.prog 19 #[.pointer (some ⟨B, 19 + 3 * s, none⟩), .pointer (some ⟨B', 19 + 3 * s, none⟩)] w fun e w' => e = .returned (.bool (decide (cb < ca))) ∧ ∃ m, w' = w.drewN m := by
  have h1 := h.cnt
  have h2 := h.src
  have h1' := h'.cnt
  have h2' := h'.src
  have hb : (ca != cb) = true := by simpa using hne
  clear h h'
  generalize 19 + 3 * s = off at *
  go_enter Try.func19, Try.ntmps19
  go_wp2
  go_quiet (fail)
  go_wp2
  go_quiet (fail)
  go_wp2
  go_ret
  exact ⟨rfl, _, World.drewN_drewN _ _ _⟩

set_option maxHeartbeats 1000000 in
set_option maxRecDepth 100000 in
theorem before_eq (w : World) (s : Nat) (hs : s ≤ 2) (ca : Int) (B E1 En C1 Cn : Nat) (n g1 gn : Int) (h : RankAt w s ca B E1 En C1 Cn n g1 gn)
    (B' E1' En' C1' Cn' : Nat) (n' g1' gn' : Int) (h' : RankAt w s ca B' E1' En' C1' Cn' n' g1' gn') :
    Calls Try.prog 19 #[.pointer (some ⟨B, 19 + 3 * s, none⟩), .pointer (some ⟨B', 19 + 3 * s, none⟩)] w fun e w' => e = .returned (.bool (decide (gOf s g1 gn < gOf s g1' gn'))) ∧ ∃ m, w' = w.drewN m := by
  have h1 := h.cnt
  have h2 := h.src
  have h3 := h.kOf
  have h1' := h'.cnt
  have h2' := h'.src
  have h3' := h'.kOf
  have N : Hid (∀ m, Calls Try.prog 22 #[.pointer (some ⟨B, 19 + 3 * s, none⟩)] (w.drewN m) fun e w' => e = .returned (.pointer (some ⟨cOf s C1 Cn, 0, none⟩)) ∧ ∃ k, w' = (w.drewN m).drewN k) := fun m => next_any _ s hs _ _ _ _ _ _ _ _ _ (h.drewN m)
  have N' : Hid (∀ m, Calls Try.prog 22 #[.pointer (some ⟨B', 19 + 3 * s, none⟩)] (w.drewN m) fun e w' => e = .returned (.pointer (some ⟨cOf s C1' Cn', 0, none⟩)) ∧ ∃ k, w' = (w.drewN m).drewN k) := fun m => next_any _ s hs _ _ _ _ _ _ _ _ _ (h'.drewN m)
  clear h h'
  generalize 19 + 3 * s = off at *
  generalize cOf s C1 Cn = C at *
  generalize cOf s C1' Cn' = C' at *
  generalize gOf s g1 gn = g at *
  generalize gOf s g1' gn' = g' at *
  go_enter Try.func19, Try.ntmps19
  go_wp2
  go_quiet (fail)
  go_wp2
  go_quiet (first
    | (go_at_call_of 22 (Value.pointer (some ⟨B, off, none⟩)); exact quiet_more (N.out _))
    | (go_at_call_of 22 (Value.pointer (some ⟨B', off, none⟩)); exact quiet_more (N'.out _)))
  go_wp2
  go_ret
  exact ⟨rfl, _, World.drewN_drewN _ _ _⟩

theorem before_any (w : World) (s : Nat) (hs : s ≤ 2) (ca cb : Int) (B E1 En C1 Cn : Nat) (n g1 gn : Int) (h : RankAt w s ca B E1 En C1 Cn n g1 gn)
    (B' E1' En' C1' Cn' : Nat) (n' g1' gn' : Int) (h' : RankAt w s cb B' E1' En' C1' Cn' n' g1' gn') :
    Calls Try.prog 19 #[.pointer (some ⟨B, 19 + 3 * s, none⟩), .pointer (some ⟨B', 19 + 3 * s, none⟩)] w fun e w' => e = .returned (.bool (bef ca cb (gOf s g1 gn) (gOf s g1' gn'))) ∧ ∃ m, w' = w.drewN m := by
  unfold bef
  by_cases he : ca = cb
  · subst he
    rw [if_pos rfl]
    exact before_eq w s hs ca B E1 En C1 Cn n g1 gn h B' E1' En' C1' Cn' n' g1' gn' h'
  · rw [if_neg he]
    exact before_ne w s hs ca cb B E1 En C1 Cn n g1 gn h B' E1' En' C1' Cn' n' g1' gn' h' he

set_option maxHeartbeats 1000000 in
theorem zzBefore_any (w : World) (s : Nat) (hs : s ≤ 2) (ca cb : Int) (B E1 En C1 Cn : Nat) (n g1 gn : Int) (h : RankAt w s ca B E1 En C1 Cn n g1 gn)
    (B' E1' En' C1' Cn' : Nat) (n' g1' gn' : Int) (h' : RankAt w s cb B' E1' En' C1' Cn' n' g1' gn') :
    Calls Try.prog 14 #[.pointer (some ⟨B, 19 + 3 * s, none⟩), .pointer (some ⟨B', 19 + 3 * s, none⟩)] w fun e w' => e = .returned (.bool (bef ca cb (gOf s g1 gn) (gOf s g1' gn'))) ∧ ∃ m, w' = w.drewN m := by
  have N := before_any w s hs ca cb B E1 En C1 Cn n g1 gn h B' E1' En' C1' Cn' n' g1' gn' h'
  have HN : Hid (Calls Try.prog 19 #[.pointer (some ⟨B, 19 + 3 * s, none⟩), .pointer (some ⟨B', 19 + 3 * s, none⟩)] w fun e w' => e = .returned (.bool (bef ca cb (gOf s g1 gn) (gOf s g1' gn'))) ∧ ∃ m, w' = w.drewN m) := N
  clear N h h'
  generalize 19 + 3 * s = off at *
  generalize bef ca cb (gOf s g1 gn) (gOf s g1' gn') = r at *
  go_enter Try.func14, Try.ntmps14
  go_wp2_with fail
  refine (HN.out).mono ?_
  rintro e w' ⟨rfl, m, rfl⟩
  go_wp2
  go_ret
  exact ⟨rfl, _, rfl⟩
end Go.Proofs.Qxb6616753a
