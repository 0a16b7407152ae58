import Derived.Test.Qxb6616965aRows
import Derived.WalkKit
namespace Go.Proofs.Qxb6616965a
open Go.RowKit
set_option linter.unusedVariables false

theorem usub (a b : Int) (h0 : -9223372036854775808 ≤ a) (h1 : a ≤ b) (h2 : b ≤ 9223372036854775807) :
    IntKind.u64.wrap (IntKind.u64.wrap b - IntKind.u64.wrap a) = b - a := by
  rw [IntKind.wrap_u64, IntKind.wrap_u64, IntKind.wrap_u64]; omega
theorem mid_eq (a b : Int) (h0 : -9223372036854775808 ≤ a) (h1 : a < b) (h2 : b ≤ 9223372036854775807) :
    wrap64 (a + wrap64 (IntKind.u64.wrap ((IntKind.u64.wrap (IntKind.u64.wrap b - IntKind.u64.wrap a)).tdiv 2))) = a + (b - a) / 2 := by
  rw [usub a b h0 (by omega) h2, Int.tdiv_eq_ediv_of_nonneg (by omega), IntKind.wrap_u64]
  unfold wrap64; omega

theorem ret_int {k : IntKind} {a b : Int} (h : a = b) : Ending.returned (.int k a) = .returned (.int k b) := by rw [h]
theorem ret_b {a b : Bool} (h : a = b) : Ending.returned (.bool a) = .returned (.bool b) := by rw [h]

set_option maxHeartbeats 400000 in
theorem mid18 (a b : Int) (h0 : -9223372036854775808 ≤ a) (h1 : a < b) (h2 : b ≤ 9223372036854775807) (w : World) :
    Calls Try.prog 18 #[.int .i64 a, .int .i64 b] w fun e w' => e = .returned (.int .i64 (a + (b - a) / 2)) ∧ w' = w := by
  go_enter Try.func18, Try.ntmps18
  go_wp2
  go_ret
  exact ⟨ret_int (mid_eq a b h0 h1 h2), rfl⟩

set_option maxHeartbeats 400000 in
theorem mid8 (a b : Int) (h0 : -9223372036854775808 ≤ a) (h1 : a < b) (h2 : b ≤ 9223372036854775807) (w : World) :
    Calls Try.prog 8 #[.int .i64 a, .int .i64 b] w fun e w' => e = .returned (.int .i64 (a + (b - a) / 2)) ∧ w' = w := by
  go_enter Try.func8, Try.ntmps8
  go_wp2_with fail
  refine (mid18 a b h0 h1 h2 _).mono ?_
  rintro e w' ⟨rfl, rfl⟩
  go_wp2
  go_ret
  exact ⟨rfl, rfl⟩

end Go.Proofs.Qxb6616965a
