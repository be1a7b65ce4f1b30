/-
  THE WALKS, 3: the bound on lengths, a prefix, a suffix.
-/
import Derived.Test.Qxb6616690aFmtRows
import Derived.Test.Qxb6616690aFmtPlain
import Derived.WalkKit
import Derived.WalkSpells
import Derived.WalkLawsBesides
import Derived.Deep.QuietTactic
import Derived.BigQuiet
namespace Go.Proofs.Qxb6616690aFmt
open Go.RowKit
set_option linter.unusedVariables false

theorem ret_bool {a b : Bool} (h : a = b) : Ending.returned (.bool a) = .returned (.bool b) := by rw [h]

set_option maxHeartbeats 400000 in
theorem f4 (path txt : ByteArray) (l1 l2 : Int) (hasErr : Bool) (w : World) (h1 : path.size ≤ maxLen) (h2 : txt.size ≤ maxLen) :
    Calls Tryf.prog 4 #[.string path, .int .i64 l1, .int .i64 l2, .bool hasErr, .string txt] w fun e w' => e = .returned (.bool (decide (path.size + txt.size ≤ 1048576))) ∧ w' = w := by
  unfold maxLen at h1 h2
  go_enter Tryf.func4, Tryf.ntmps4
  go_wp2_with fail
  all_goals
    go_ret
    refine ⟨ret_bool ?_, rfl⟩
    first | exact (decide_eq_true (by omega)).symm | exact (decide_eq_false (by omega)).symm

set_option maxHeartbeats 400000 in
theorem f6 (s p : ByteArray) (w : World) (hs : s.size ≤ 1048676) (hp : p.size ≤ s.size) (heq : ∀ (k : Nat) (h : k < p.size), s[k]'(by omega) = p[k]) :
    Calls Tryf.prog 6 #[.string s, .string p] w fun e w' => e = .returned (.bool true) ∧ ∃ n, w' = w.drewN n := by
  have HE := fun k h => congrArg UInt8.toNat (heq k h)
  have HE' : Hid _ := HE
  clear HE heq
  go_enter Tryf.func6, Tryf.ntmps6
  go_wp2_with fail
  go_loopw [5] (fun t wr => ∃ k : Nat, t = .int .i64 k ∧ k ≤ p.size ∧ ∃ n, wr = w.drewN n) (fun t _ => p.size - (intOf t).toNat)
  case atStart => exact ⟨0, rfl, by omega, 0, rfl⟩
  case round =>
    obtain ⟨k, rfl, hk, n, rfl⟩ := hrel
    by_cases hlt : k < p.size
    · have hls : k < s.size := by omega
      have t1 : (((s[k]).toNat : Int) != ((p[k]).toNat : Int)) = false := by simp [HE'.out k hlt]
      go_wp2_with fail
      go_quiet (fail)
      go_wp2_with fail
      go_roundw
      case rel => exact ⟨k + 1, by go_num, by omega, _, rfl⟩
      case measure => simp [intOf]; omega
    · go_wp2_with fail
      go_ret
      exact ⟨rfl, n, rfl⟩

set_option maxHeartbeats 400000 in
theorem f7_at (s p : ByteArray) (m : Nat) (w : World) (hs : s.size ≤ 1048676) (hm : p.size + m = s.size) (heq : ∀ (k : Nat) (h : k < p.size) (h' : m + k < s.size), s[m + k] = p[k]) :
    Calls Tryf.prog 7 #[.string s, .string p] w fun e w' => e = .returned (.bool true) ∧ ∃ n, w' = w.drewN n := by
  have HE := fun k h h' => congrArg UInt8.toNat (heq k h h')
  have HE' : Hid _ := HE
  clear HE heq
  have hoff : ((s.size : Int) - (p.size : Int)) = (m : Int) := by omega
  have hps : p.size ≤ s.size := by omega
  have HM : Hid (p.size + m = s.size) := hm
  have hms : m ≤ s.size := by omega
  clear hm
  go_enter Tryf.func7, Tryf.ntmps7
  go_wp2_with fail
  go_loopw [6] (fun t wr => ∃ k : Nat, t = .int .i64 k ∧ k ≤ p.size ∧ ∃ n, wr = w.drewN n) (fun t _ => p.size - (intOf t).toNat)
  case atStart => exact ⟨0, rfl, by omega, 0, rfl⟩
  case round =>
    obtain ⟨k, rfl, hk, n, rfl⟩ := hrel
    by_cases hlt : k < p.size
    · have hls : m + k < s.size := by have := HM.out; omega
      have hls' : (m : Int) + (k : Int) < (s.size : Int) := by omega
      have hwr : IntKind.i64.wrap ((m : Int) + (k : Int)) = (m : Int) + (k : Int) := by rw [IntKind.wrap_i64]; omega
      have h0 : (0 : Int) ≤ (m : Int) + (k : Int) := by omega
      have htn : ((m : Int) + (k : Int)).toNat = m + k := by omega
      have t1 : (((s[m + k]).toNat : Int) != ((p[k]).toNat : Int)) = false := by simp [HE'.out k hlt hls]
      go_wp2_with fail
      go_quiet (fail)
      go_wp2_with fail
      go_roundw
      case rel => exact ⟨k + 1, by go_num, by omega, _, rfl⟩
      case measure => simp [intOf]; omega
    · go_wp2_with fail
      go_ret
      exact ⟨rfl, n, rfl⟩

end Go.Proofs.Qxb6616690aFmt
