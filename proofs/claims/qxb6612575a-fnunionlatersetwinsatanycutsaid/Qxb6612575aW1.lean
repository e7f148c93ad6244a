/- Walks over the size guards of seat b6612575a: functions 20, 9, 10, 5. -/
import Derived.Test.Qxb6612575aRows
import Derived.WalkKit
import Derived.WalkSpells
import Derived.WalkLawsBesides
namespace Go.Proofs.Qxb6612575a
open Go.RowKit

set_option maxHeartbeats 400000 in
theorem add_any (a n : Int) (w : World) :
    Calls Try.prog 20 #[.int .i64 a, .int .i64 n] w fun e w' => (∃ r, e = .returned (.int .i64 r)) ∧ w' = w := by
  go_enter Try.func20, Try.ntmps20
  go_wp2
  all_goals go_ret
  all_goals exact ⟨⟨_, rfl⟩, rfl⟩

set_option maxHeartbeats 400000 in
theorem words_any (a n m : Int) (hm : 0 < m) (hm2 : m < 100) (w : World) :
    Calls Try.prog 9 #[.int .i64 a, .int .i64 n, .int .i64 m] w fun e w' => (∃ r, e = .returned (.int .i64 r)) ∧ w' = w := by
  go_enter Try.func9, Try.ntmps9
  go_wp2_with (go_at_call 20; refine (add_any _ _ _).mono ?_; rintro e w' ⟨⟨r, rfl⟩, rfl⟩)
  all_goals go_ret
  all_goals exact ⟨⟨_, rfl⟩, rfl⟩
end Go.Proofs.Qxb6612575a
