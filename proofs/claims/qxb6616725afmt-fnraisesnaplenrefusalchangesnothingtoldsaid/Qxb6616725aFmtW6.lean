/-
  zzSame, ZZBytes, NewWriter, ZZNewWriterBuf.
-/
import Derived.Test.Qxb6616725aFmtW5
namespace Go.Proofs.Qxb6616725aFmt
open Go.RowKit
set_option linter.unusedVariables false

set_option maxRecDepth 100000 in
set_option maxHeartbeats 1000000 in
theorem f11 (ra rb ca cb : Nat) (xs : List Int) (w : World) (ha : Src w ra 0 xs) (hb : Src w rb 0 xs) (hl : xs.length ≤ 4000000) :
    Calls Tryf.prog 11 #[.slice (some ⟨ra, 0, none⟩) xs.length ca, .slice (some ⟨rb, 0, none⟩) xs.length cb] w fun e w' => e = .returned (.bool true) ∧ Fr [] w w' := by
  have HA := hide ha
  have HB := hide hb
  clear ha hb
  go_enter Tryf.func11, Tryf.ntmps11
  go_wp2_with fail
  go_loopw [5] (fun i wr => ∃ k : Nat, k ≤ xs.length ∧ i = .int .i64 k ∧ Fr [] w wr) (fun i _ => xs.length - (intOf i).toNat)
  case atStart => exact ⟨0, Nat.zero_le _, rfl, Fr.refl _ _⟩
  case round =>
    obtain ⟨k, hk, rfl, hf⟩ := hrel
    by_cases hlt : k < xs.length
    · have ht : decide ((k : Int) < (xs.length : Int)) = true := by simp; omega
      have c1 := (HA.out.fr hf (by simp)) k hlt
      have c2 := (HB.out.fr hf (by simp)) k hlt
      rw [Nat.zero_add] at c1 c2
      have HF := hide hf
      clear hf
      go_wp2_with fail
      go_region
      go_wp2_with fail
      go_roundw
      case rel => exact ⟨k + 1, by omega, by go_num, HF.out.drew⟩
      case measure => simp [intOf]; omega
    · have ht : decide ((k : Int) < (xs.length : Int)) = false := by simp; omega
      have HF := hide hf
      clear hf
      go_wp2_with fail
      go_ret
      exact ⟨rfl, HF.out⟩

/-- The array behind the five puts. -/
def laid5 (big nano : Bool) (snap link : Int) : List Int := lay (lay (lay (lay (lay (List.replicate 24 0) 0 (put32 big (mag nano))) 4 (put16 big 2)) 6 (put16 big 4)) 16 (put32 big snap)) 20 (put32 big link)
theorem laid5_eq (big nano : Bool) (snap link : Int) : laid5 big nano snap link = hdr big nano snap link := by cases big <;> rfl

/-- What NewWriter leaves: the three blocks, and the bytes held. -/
structure Made (w w' : World) (pw bw bs bb : Nat) (ot : TypeId) (snap : Int) (n : Nat) (xs : List Int) : Prop where
  p : Pw w' pw bw (.iface ot (.agg #[])) snap
  b : Bw w' bw bs bb n
  r : Row w' bs 5 xs
  l : xs.length = 4096
  f : Below w.heap.size w w'
  h1 : w.heap.size ≤ bs
  h2 : w.heap.size ≤ bw
  h3 : w.heap.size ≤ pw
end Go.Proofs.Qxb6616725aFmt
