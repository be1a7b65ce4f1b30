/-
  THE WALKS, 1: the leaves.
-/
import Derived.Test.Qxb6616667aDoorRows
import Derived.Test.Qxb6616667aDoorPlain
import Derived.Test.Qxb6616667aDoorBits
import Derived.Test.Qxb6616667aDoorShelf
import Derived.WalkKit
import Derived.WalkSpells
import Derived.WalkLawsBesides
namespace Go.Proofs.Qxb6616667aDoor
open Go.RowKit

theorem hide {p : Prop} (h : p) : Hid p := h
theorem ret_bool {a b : Bool} (h : a = b) : Ending.returned (.bool a) = .returned (.bool b) := by rw [h]
theorem ret_int {k : IntKind} {a b : Int} (h : a = b) : Ending.returned (.int k a) = .returned (.int k b) := by rw [h]

set_option maxHeartbeats 400000 in
theorem f34 (c : Int) (w : World) :
    Calls Tryd.prog 34 #[.int .u8 c] w fun e w' => e = .returned (.bool (Pl.digB c)) ∧ w' = w := by
  go_enter Tryd.func34, Tryd.ntmps34
  go_wp2
  all_goals
    go_ret
    refine ⟨ret_bool ?_, rfl⟩
    rw [Bool.eq_iff_iff]; simp [Pl.digB]; omega

set_option maxHeartbeats 400000 in
theorem f19 (c : Int) (w : World) :
    Calls Tryd.prog 19 #[.int .u8 c] w fun e w' => e = .returned (.bool (Pl.digB c)) ∧ w' = w := by
  go_enter Tryd.func19, Tryd.ntmps19
  go_wp2
  all_goals
    go_ret
    refine ⟨ret_bool ?_, rfl⟩
    rw [Bool.eq_iff_iff]; simp [Pl.digB]; omega

set_option maxHeartbeats 400000 in
theorem f14 (c : Int) (w : World) :
    Calls Tryd.prog 14 #[.int .u8 c] w fun e w' => e = .returned (.bool (Pl.hexB c)) ∧ w' = w := by
  go_enter Tryd.func14, Tryd.ntmps14
  go_wp2_with (go_at_call 19; refine (f19 _ _).mono ?_; rintro e w' ⟨rfl, rfl⟩)
  all_goals
    go_ret
    refine ⟨ret_bool ?_, rfl⟩
    rw [Bool.eq_iff_iff]; simp_all [Pl.hexB] <;> omega

set_option maxHeartbeats 400000 in
theorem f13 (c : Int) (w : World) :
    Calls Tryd.prog 13 #[.int .u8 c] w fun e w' => e = .returned (.bool (Pl.escB c)) ∧ w' = w := by
  go_enter Tryd.func13, Tryd.ntmps13
  go_wp2
  all_goals
    go_ret
    refine ⟨ret_bool ?_, rfl⟩
    simp [Pl.escB, *]

set_option maxHeartbeats 400000 in
theorem f16 (q : Int) (w : World) :
    Calls Tryd.prog 16 #[.int .i64 q] w fun e w' => e = .returned (.bool (Pl.wholeB q)) ∧ w' = w := by
  go_enter Tryd.func16, Tryd.ntmps16
  go_wp2
  all_goals
    go_ret
    refine ⟨ret_bool ?_, rfl⟩
    simp [Pl.wholeB, *]

set_option maxHeartbeats 400000 in
theorem f27 (q : Int) (w : World) :
    Calls Tryd.prog 27 #[.int .i64 q] w fun e w' => e = .returned (.bool (Pl.wholeB q)) ∧ w' = w := by
  go_enter Tryd.func27, Tryd.ntmps27
  go_wp2
  all_goals
    go_ret
    refine ⟨ret_bool ?_, rfl⟩
    simp [Pl.wholeB, *]

set_option maxHeartbeats 400000 in
theorem f15 (q c : Int) (w : World) :
    Calls Tryd.prog 15 #[.int .i64 q, .int .u8 c] w fun e w' => e = .returned (.int .i64 (Pl.numStep q c)) ∧ w' = w := by
  go_enter Tryd.func15, Tryd.ntmps15
  go_wp2_with (go_at_call 19; refine (f19 _ _).mono ?_; rintro e w' ⟨rfl, rfl⟩)
  all_goals
    go_ret
    refine ⟨ret_int ?_, rfl⟩
    simp_all [Pl.numStep]
    try omega

end Go.Proofs.Qxb6616667aDoor
