/-
  THE WALKS, 13: the bound on lengths; which fields are reachable.
-/
import Derived.Test.Qxb6616667aDoorW12
import Derived.Test.Qxb6616667aDoorLaw
namespace Go.Proofs.Qxb6616667aDoor
open Go.RowKit
set_option linter.unusedVariables false

set_option maxHeartbeats 400000 in
theorem f5 (cut lit : ByteArray) (l : Bool) (h num p : Int) (a : Option Addr) (n c : Nat) (w : World) (h1 : cut.size ≤ maxLen) (h2 : lit.size ≤ maxLen) (h3 : n ≤ maxLen) :
    Calls Tryd.prog 5 #[.string cut, .bool l, .int .i64 h, .int .i64 num, .string lit, .slice a n c, .int .i64 p] w fun e w' => e = .returned (.bool (decide (cut.size + lit.size + n ≤ 1048576))) ∧ w' = w := by
  unfold maxLen at h1 h2 h3
  go_enter Tryd.func5, Tryd.ntmps5
  go_wp2_with fail
  all_goals
    go_ret
    refine ⟨ret_bool ?_, rfl⟩
    first | exact (decide_eq_true (by omega)).symm | exact (decide_eq_false (by omega)).symm

/-- WHAT jsb1Reachable ANSWERS: where it says yes the fields are reachable. -/
def ReachPost (cut : ByteArray) (l : Bool) (h num : Int) (lit : ByteArray) (w : World) (e : Ending) (w' : World) : Prop :=
  ∃ b : Bool, e = .returned (.bool b) ∧ (b = true → ∃ t, cut = cutOf t ∧ Reach t l h num lit) ∧ w' = w

theorem bytes_of_list {s : ByteArray} {a : Array UInt8} (h : s.toList = a.toList) : s = ⟨a⟩ := by
  rw [ByteArray.toList_eq] at h
  obtain ⟨⟨d⟩⟩ := s
  obtain ⟨d'⟩ := a
  simp at h
  rw [h]
theorem size_of_list {s : ByteArray} (h : s.toList.isEmpty = false) : 0 < s.size := by
  rw [ByteArray.toList_eq] at h
  show 0 < s.data.size
  cases hs : s.data.toList
  · simp [hs] at h
  · rw [← Array.length_toList, hs]
    simp

set_option maxHeartbeats 400000 in
theorem f6_other (cut lit : ByteArray) (l : Bool) (h num : Int) (w : World) (n0 : cut.toList.isEmpty = false) (n1 : (cut.toList == [97, 32, 115, 116, 114, 105, 110, 103]) = false) (n2 : (cut.toList == [97, 32, 110, 117, 109, 98, 101, 114]) = false) (n3 : (cut.toList == [97, 32, 108, 105, 116, 101, 114, 97, 108]) = false) :
    Calls Tryd.prog 6 #[.string cut, .bool l, .int .i64 h, .int .i64 num, .string lit] w (ReachPost cut l h num lit w) := by
  go_enter Tryd.func6, Tryd.ntmps6
  go_wp2_with fail
  go_ret
  exact ⟨false, rfl, fun h => (by cases h), rfl⟩

set_option maxHeartbeats 1000000 in
theorem f6_0 (lit : ByteArray) (l : Bool) (h num : Int) (w : World) (hll : lit.size ≤ 1048576) :
    Calls Tryd.prog 6 #[.string (cutOf 0), .bool l, .int .i64 h, .int .i64 num, .string lit] w (ReachPost (cutOf 0) l h num lit w) := by
  have e : cutOf 0 = ⟨#[]⟩ := rfl
  by_cases c1 : h < 0
  · rw [e]
    go_enter Tryd.func6, Tryd.ntmps6
    go_wp2_with fail
    go_ret
    exact ⟨false, rfl, fun h => (by cases h), rfl⟩
  by_cases c2 : 4 < h
  · rw [e]
    go_enter Tryd.func6, Tryd.ntmps6
    go_wp2_with fail
    go_ret
    exact ⟨false, rfl, fun h => (by cases h), rfl⟩
  by_cases c3 : l = true ∧ h ≠ 0
  · obtain ⟨rfl, c3⟩ := c3
    have c3' : (h != 0) = true := by simp [c3]
    have c1' : decide (h < 0) = false := decide_eq_false c1
    have c2' : decide (4 < h) = false := decide_eq_false c2
    clear c3
    rw [e]
    go_enter Tryd.func6, Tryd.ntmps6
    go_wp2_with fail
    go_ret
    exact ⟨false, rfl, fun h => (by cases h), rfl⟩
  have c3' : l = true → h = 0 := fun hl => Classical.byContradiction fun hh => c3 ⟨hl, hh⟩
  by_cases c4 : num < 0
  · rw [e]
    have HF : Hid (ReachPost ⟨#[]⟩ l h num lit w (.returned (.bool false)) w) := ⟨false, rfl, fun h => (by cases h), rfl⟩
    have c1' : decide (h < 0) = false := decide_eq_false c1
    have c2' : decide (4 < h) = false := decide_eq_false c2
    clear c3
    cases l
    · go_enter Tryd.func6, Tryd.ntmps6
      go_wp2_with fail
      go_ret
      exact HF.out
    · obtain rfl := c3' rfl
      go_enter Tryd.func6, Tryd.ntmps6
      go_wp2_with fail
      go_ret
      exact HF.out
  by_cases c5 : 8 < num
  · rw [e]
    have HF : Hid (ReachPost ⟨#[]⟩ l h num lit w (.returned (.bool false)) w) := ⟨false, rfl, fun h => (by cases h), rfl⟩
    have c1' : decide (h < 0) = false := decide_eq_false c1
    have c2' : decide (4 < h) = false := decide_eq_false c2
    clear c3
    cases l
    · go_enter Tryd.func6, Tryd.ntmps6
      go_wp2_with fail
      go_ret
      exact HF.out
    · obtain rfl := c3' rfl
      go_enter Tryd.func6, Tryd.ntmps6
      go_wp2_with fail
      go_ret
      exact HF.out
  have HR : Hid (∀ b : Bool, ReachPost ⟨#[]⟩ l h num lit w (.returned (.bool b)) w) := fun b => ⟨b, rfl, fun _ => ⟨0, e.symm, ⟨by omega, ⟨by omega, by omega, c3'⟩, by omega, by omega, by omega, by omega, hll⟩⟩, rfl⟩
  have c1' : decide (h < 0) = false := decide_eq_false c1
  have c2' : decide (4 < h) = false := decide_eq_false c2
  have c4' : decide (num < 0) = false := decide_eq_false c4
  have c5' : decide (8 < num) = false := decide_eq_false c5
  rw [e]
  clear c3 hll
  cases l
  · go_enter Tryd.func6, Tryd.ntmps6
    go_wp2_with fail
    all_goals go_ret
    all_goals (exact HR.out _)
  · obtain rfl := c3' rfl
    go_enter Tryd.func6, Tryd.ntmps6
    go_wp2_with fail
    all_goals go_ret
    all_goals (exact HR.out _)

set_option maxHeartbeats 1000000 in
theorem f6_1 (lit : ByteArray) (l : Bool) (h num : Int) (w : World) (hll : lit.size ≤ 1048576) :
    Calls Tryd.prog 6 #[.string (cutOf 1), .bool l, .int .i64 h, .int .i64 num, .string lit] w (ReachPost (cutOf 1) l h num lit w) := by
  have e : cutOf 1 = ⟨#[97, 32, 115, 116, 114, 105, 110, 103]⟩ := rfl
  by_cases c1 : h < 0
  · rw [e]
    go_enter Tryd.func6, Tryd.ntmps6
    go_wp2_with fail
    go_ret
    exact ⟨false, rfl, fun h => (by cases h), rfl⟩
  by_cases c2 : 4 < h
  · rw [e]
    go_enter Tryd.func6, Tryd.ntmps6
    go_wp2_with fail
    go_ret
    exact ⟨false, rfl, fun h => (by cases h), rfl⟩
  by_cases c3 : l = true ∧ h ≠ 0
  · obtain ⟨rfl, c3⟩ := c3
    have c3' : (h != 0) = true := by simp [c3]
    have c1' : decide (h < 0) = false := decide_eq_false c1
    have c2' : decide (4 < h) = false := decide_eq_false c2
    clear c3
    rw [e]
    go_enter Tryd.func6, Tryd.ntmps6
    go_wp2_with fail
    go_ret
    exact ⟨false, rfl, fun h => (by cases h), rfl⟩
  have c3' : l = true → h = 0 := fun hl => Classical.byContradiction fun hh => c3 ⟨hl, hh⟩
  by_cases c4 : num < 0
  · rw [e]
    have HF : Hid (ReachPost ⟨#[97, 32, 115, 116, 114, 105, 110, 103]⟩ l h num lit w (.returned (.bool false)) w) := ⟨false, rfl, fun h => (by cases h), rfl⟩
    have c1' : decide (h < 0) = false := decide_eq_false c1
    have c2' : decide (4 < h) = false := decide_eq_false c2
    clear c3
    cases l
    · go_enter Tryd.func6, Tryd.ntmps6
      go_wp2_with fail
      go_ret
      exact HF.out
    · obtain rfl := c3' rfl
      go_enter Tryd.func6, Tryd.ntmps6
      go_wp2_with fail
      go_ret
      exact HF.out
  by_cases c5 : 8 < num
  · rw [e]
    have HF : Hid (ReachPost ⟨#[97, 32, 115, 116, 114, 105, 110, 103]⟩ l h num lit w (.returned (.bool false)) w) := ⟨false, rfl, fun h => (by cases h), rfl⟩
    have c1' : decide (h < 0) = false := decide_eq_false c1
    have c2' : decide (4 < h) = false := decide_eq_false c2
    clear c3
    cases l
    · go_enter Tryd.func6, Tryd.ntmps6
      go_wp2_with fail
      go_ret
      exact HF.out
    · obtain rfl := c3' rfl
      go_enter Tryd.func6, Tryd.ntmps6
      go_wp2_with fail
      go_ret
      exact HF.out
  have HR : Hid (∀ b : Bool, ReachPost ⟨#[97, 32, 115, 116, 114, 105, 110, 103]⟩ l h num lit w (.returned (.bool b)) w) := fun b => ⟨b, rfl, fun _ => ⟨1, e.symm, ⟨by omega, ⟨by omega, by omega, c3'⟩, by omega, by omega, by omega, by omega, hll⟩⟩, rfl⟩
  have c1' : decide (h < 0) = false := decide_eq_false c1
  have c2' : decide (4 < h) = false := decide_eq_false c2
  have c4' : decide (num < 0) = false := decide_eq_false c4
  have c5' : decide (8 < num) = false := decide_eq_false c5
  rw [e]
  clear c3 hll
  cases l
  · go_enter Tryd.func6, Tryd.ntmps6
    go_wp2_with fail
    all_goals go_ret
    all_goals (exact HR.out _)
  · obtain rfl := c3' rfl
    go_enter Tryd.func6, Tryd.ntmps6
    go_wp2_with fail
    all_goals go_ret
    all_goals (exact HR.out _)

set_option maxHeartbeats 1000000 in
theorem f6_2 (lit : ByteArray) (l : Bool) (h num : Int) (w : World) (hll : lit.size ≤ 1048576) :
    Calls Tryd.prog 6 #[.string (cutOf 2), .bool l, .int .i64 h, .int .i64 num, .string lit] w (ReachPost (cutOf 2) l h num lit w) := by
  have e : cutOf 2 = ⟨#[97, 32, 110, 117, 109, 98, 101, 114]⟩ := rfl
  by_cases c1 : h < 0
  · rw [e]
    go_enter Tryd.func6, Tryd.ntmps6
    go_wp2_with fail
    go_ret
    exact ⟨false, rfl, fun h => (by cases h), rfl⟩
  by_cases c2 : 4 < h
  · rw [e]
    go_enter Tryd.func6, Tryd.ntmps6
    go_wp2_with fail
    go_ret
    exact ⟨false, rfl, fun h => (by cases h), rfl⟩
  by_cases c3 : l = true ∧ h ≠ 0
  · obtain ⟨rfl, c3⟩ := c3
    have c3' : (h != 0) = true := by simp [c3]
    have c1' : decide (h < 0) = false := decide_eq_false c1
    have c2' : decide (4 < h) = false := decide_eq_false c2
    clear c3
    rw [e]
    go_enter Tryd.func6, Tryd.ntmps6
    go_wp2_with fail
    go_ret
    exact ⟨false, rfl, fun h => (by cases h), rfl⟩
  have c3' : l = true → h = 0 := fun hl => Classical.byContradiction fun hh => c3 ⟨hl, hh⟩
  by_cases c4 : num < 0
  · rw [e]
    have HF : Hid (ReachPost ⟨#[97, 32, 110, 117, 109, 98, 101, 114]⟩ l h num lit w (.returned (.bool false)) w) := ⟨false, rfl, fun h => (by cases h), rfl⟩
    have c1' : decide (h < 0) = false := decide_eq_false c1
    have c2' : decide (4 < h) = false := decide_eq_false c2
    clear c3
    cases l
    · go_enter Tryd.func6, Tryd.ntmps6
      go_wp2_with fail
      go_ret
      exact HF.out
    · obtain rfl := c3' rfl
      go_enter Tryd.func6, Tryd.ntmps6
      go_wp2_with fail
      go_ret
      exact HF.out
  by_cases c5 : 8 < num
  · rw [e]
    have HF : Hid (ReachPost ⟨#[97, 32, 110, 117, 109, 98, 101, 114]⟩ l h num lit w (.returned (.bool false)) w) := ⟨false, rfl, fun h => (by cases h), rfl⟩
    have c1' : decide (h < 0) = false := decide_eq_false c1
    have c2' : decide (4 < h) = false := decide_eq_false c2
    clear c3
    cases l
    · go_enter Tryd.func6, Tryd.ntmps6
      go_wp2_with fail
      go_ret
      exact HF.out
    · obtain rfl := c3' rfl
      go_enter Tryd.func6, Tryd.ntmps6
      go_wp2_with fail
      go_ret
      exact HF.out
  by_cases c6 : num = 0
  · rw [e]
    have HF : Hid (ReachPost ⟨#[97, 32, 110, 117, 109, 98, 101, 114]⟩ l h num lit w (.returned (.bool false)) w) := ⟨false, rfl, fun h => (by cases h), rfl⟩
    subst c6
    have c1' : decide (h < 0) = false := decide_eq_false c1
    have c2' : decide (4 < h) = false := decide_eq_false c2
    clear c3
    cases l
    · go_enter Tryd.func6, Tryd.ntmps6
      go_wp2_with fail
      go_ret
      exact HF.out
    · obtain rfl := c3' rfl
      go_enter Tryd.func6, Tryd.ntmps6
      go_wp2_with fail
      go_ret
      exact HF.out
  have c6' : (num == 0) = false := by simp [c6]
  have HR : Hid (∀ b : Bool, ReachPost ⟨#[97, 32, 110, 117, 109, 98, 101, 114]⟩ l h num lit w (.returned (.bool b)) w) := fun b => ⟨b, rfl, fun _ => ⟨2, e.symm, ⟨by omega, ⟨by omega, by omega, c3'⟩, by omega, by omega, by omega, by omega, hll⟩⟩, rfl⟩
  have c1' : decide (h < 0) = false := decide_eq_false c1
  have c2' : decide (4 < h) = false := decide_eq_false c2
  have c4' : decide (num < 0) = false := decide_eq_false c4
  have c5' : decide (8 < num) = false := decide_eq_false c5
  rw [e]
  clear c3 hll c6
  cases l
  · go_enter Tryd.func6, Tryd.ntmps6
    go_wp2_with fail
    all_goals go_ret
    all_goals (exact HR.out _)
  · obtain rfl := c3' rfl
    go_enter Tryd.func6, Tryd.ntmps6
    go_wp2_with fail
    all_goals go_ret
    all_goals (exact HR.out _)

set_option maxHeartbeats 1000000 in
theorem f6_3 (lit : ByteArray) (l : Bool) (h num : Int) (w : World) (hll : lit.size ≤ 1048576) :
    Calls Tryd.prog 6 #[.string (cutOf 3), .bool l, .int .i64 h, .int .i64 num, .string lit] w (ReachPost (cutOf 3) l h num lit w) := by
  have e : cutOf 3 = ⟨#[97, 32, 108, 105, 116, 101, 114, 97, 108]⟩ := rfl
  by_cases c1 : h < 0
  · rw [e]
    go_enter Tryd.func6, Tryd.ntmps6
    go_wp2_with fail
    go_ret
    exact ⟨false, rfl, fun h => (by cases h), rfl⟩
  by_cases c2 : 4 < h
  · rw [e]
    go_enter Tryd.func6, Tryd.ntmps6
    go_wp2_with fail
    go_ret
    exact ⟨false, rfl, fun h => (by cases h), rfl⟩
  by_cases c3 : l = true ∧ h ≠ 0
  · obtain ⟨rfl, c3⟩ := c3
    have c3' : (h != 0) = true := by simp [c3]
    have c1' : decide (h < 0) = false := decide_eq_false c1
    have c2' : decide (4 < h) = false := decide_eq_false c2
    clear c3
    rw [e]
    go_enter Tryd.func6, Tryd.ntmps6
    go_wp2_with fail
    go_ret
    exact ⟨false, rfl, fun h => (by cases h), rfl⟩
  have c3' : l = true → h = 0 := fun hl => Classical.byContradiction fun hh => c3 ⟨hl, hh⟩
  by_cases c4 : num < 0
  · rw [e]
    have HF : Hid (ReachPost ⟨#[97, 32, 108, 105, 116, 101, 114, 97, 108]⟩ l h num lit w (.returned (.bool false)) w) := ⟨false, rfl, fun h => (by cases h), rfl⟩
    have c1' : decide (h < 0) = false := decide_eq_false c1
    have c2' : decide (4 < h) = false := decide_eq_false c2
    clear c3
    cases l
    · go_enter Tryd.func6, Tryd.ntmps6
      go_wp2_with fail
      go_ret
      exact HF.out
    · obtain rfl := c3' rfl
      go_enter Tryd.func6, Tryd.ntmps6
      go_wp2_with fail
      go_ret
      exact HF.out
  by_cases c5 : 8 < num
  · rw [e]
    have HF : Hid (ReachPost ⟨#[97, 32, 108, 105, 116, 101, 114, 97, 108]⟩ l h num lit w (.returned (.bool false)) w) := ⟨false, rfl, fun h => (by cases h), rfl⟩
    have c1' : decide (h < 0) = false := decide_eq_false c1
    have c2' : decide (4 < h) = false := decide_eq_false c2
    clear c3
    cases l
    · go_enter Tryd.func6, Tryd.ntmps6
      go_wp2_with fail
      go_ret
      exact HF.out
    · obtain rfl := c3' rfl
      go_enter Tryd.func6, Tryd.ntmps6
      go_wp2_with fail
      go_ret
      exact HF.out
  have HR : Hid (lit.toList.isEmpty = false → ∀ b : Bool, ReachPost ⟨#[97, 32, 108, 105, 116, 101, 114, 97, 108]⟩ l h num lit w (.returned (.bool b)) w) := fun hne b => ⟨b, rfl, fun _ => ⟨3, e.symm, ⟨by omega, ⟨by omega, by omega, c3'⟩, by omega, by omega, by omega, fun _ => size_of_list hne, hll⟩⟩, rfl⟩
  have HN : Hid (ReachPost ⟨#[97, 32, 108, 105, 116, 101, 114, 97, 108]⟩ l h num lit w (.returned (.bool false)) w) := ⟨false, rfl, fun h => (by cases h), rfl⟩
  have c1' : decide (h < 0) = false := decide_eq_false c1
  have c2' : decide (4 < h) = false := decide_eq_false c2
  have c4' : decide (num < 0) = false := decide_eq_false c4
  have c5' : decide (8 < num) = false := decide_eq_false c5
  rw [e]
  clear c3 hll
  cases l
  · go_enter Tryd.func6, Tryd.ntmps6
    go_wp2_with fail
    all_goals go_ret
    all_goals (first | exact HN.out | exact HR.out (by assumption) _)
  · obtain rfl := c3' rfl
    go_enter Tryd.func6, Tryd.ntmps6
    go_wp2_with fail
    all_goals go_ret
    all_goals (first | exact HN.out | exact HR.out (by assumption) _)

theorem f6 (cut lit : ByteArray) (l : Bool) (h num : Int) (w : World) (hll : lit.size ≤ 1048576) :
    Calls Tryd.prog 6 #[.string cut, .bool l, .int .i64 h, .int .i64 num, .string lit] w (ReachPost cut l h num lit w) := by
  cases n0 : cut.toList.isEmpty
  · cases n1 : (cut.toList == [97, 32, 115, 116, 114, 105, 110, 103])
    · cases n2 : (cut.toList == [97, 32, 110, 117, 109, 98, 101, 114])
      · cases n3 : (cut.toList == [97, 32, 108, 105, 116, 101, 114, 97, 108])
        · exact f6_other cut lit l h num w n0 n1 n2 n3
        · obtain rfl : cut = cutOf 3 := bytes_of_list (by simpa using n3)
          exact f6_3 lit l h num w hll
      · obtain rfl : cut = cutOf 2 := bytes_of_list (by simpa using n2)
        exact f6_2 lit l h num w hll
    · obtain rfl : cut = cutOf 1 := bytes_of_list (by simpa using n1)
      exact f6_1 lit l h num w hll
  · obtain rfl : cut = cutOf 0 := bytes_of_list (by simpa using n0)
    exact f6_0 lit l h num w hll

end Go.Proofs.Qxb6616667aDoor
