import Derived.Test.Qxb6616753aRows
import Derived.WalkKit
import Derived.ProofKit
import Derived.Laws.Cover1
namespace Go.Proofs.Qxb6616753a
open Go.ChangeShapes Go.WideShapes Go.ChangeAt Go.RowKit

def climit (f : Int) : Int := f - min (min (max (f / 8) 32) 1024) (f / 2)

theorem ret_int {k : IntKind} {a b : Int} (h : a = b) : Ending.returned (.int k a) = .returned (.int k b) := by rw [h]

set_option maxHeartbeats 400000 in
theorem connLimit_any (f : Int) (h0 : 0 ≤ f) (h1 : f ≤ 9223372036854775807) (w : World) :
    Calls Try.prog 16 #[.int .i64 f] w fun e w' => e = .returned (.int .i64 (climit f)) ∧ w' = w := by
  go_enter Try.func16, Try.ntmps16
  go_wp2
  all_goals go_ret
  all_goals refine ⟨ret_int ?_, rfl⟩
  all_goals unfold climit
  all_goals omega

set_option maxHeartbeats 400000 in
theorem zzConnLimit_any (f : Int) (h0 : 0 ≤ f) (h1 : f ≤ 9223372036854775807) (w : World) :
    Calls Try.prog 7 #[.int .i64 f] w fun e w' => e = .returned (.int .i64 (climit f)) ∧ w' = w := by
  go_enter Try.func7, Try.ntmps7
  go_wp2_with (go_at_call 16; refine (connLimit_any _ h0 h1 _).mono ?_; rintro e w' ⟨rfl, rfl⟩)
  go_ret
  exact ⟨rfl, rfl⟩

set_option maxHeartbeats 400000 in
theorem zzlMin_any (a b : Int) (w : World) :
    Calls Try.prog 8 #[.int .i64 a, .int .i64 b] w fun e w' => e = .returned (.int .i64 (min a b)) ∧ w' = w := by
  go_enter Try.func8, Try.ntmps8
  go_wp2
  all_goals go_ret
  all_goals refine ⟨ret_int ?_, rfl⟩
  all_goals omega

theorem climit_step (f : Int) (h0 : 0 ≤ f) : climit (f + 1) - climit f = 0 ∨ climit (f + 1) - climit f = 1 := by
  unfold climit; omega
theorem climit_res (f : Int) (h0 : 0 ≤ f) : f - climit f ≤ f / 2 ∧ min 32 (f / 2) ≤ f - climit f := by
  unfold climit; omega
theorem climit_bd (f : Int) (h0 : 0 ≤ f) : 0 ≤ climit f ∧ climit f ≤ f := by
  unfold climit; omega
end Go.Proofs.Qxb6616753a
