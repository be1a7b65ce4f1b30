/-
  zzClone, zzFlushedHeader.
-/
import Derived.Test.Qxb6616725aFmtW9
namespace Go.Proofs.Qxb6616725aFmt
open Go.RowKit
set_option linter.unusedVariables false

/-- The clone behind k rounds. -/
def part (xs : List Int) (k : Nat) : List Int := xs.take k ++ List.replicate (xs.length - k) 0
theorem part_len (xs : List Int) (k : Nat) (h : k ≤ xs.length) : (part xs k).length = xs.length := by simp [part]; omega
theorem part_step (xs : List Int) (k : Nat) (h : k < xs.length) : (part xs k).set k (xs.getD k 0) = part xs (k + 1) := by
  unfold part
  have e : xs.length - k = (xs.length - (k + 1)) + 1 := by omega
  have hm : min k xs.length = k := by omega
  have e2 : xs.take (k + 1) = xs.take k ++ [xs[k]] := by rw [List.take_add_one, List.getElem?_eq_getElem h]; rfl
  rw [e2, e, List.replicate_succ, List.set_append_right _ _ (by rw [List.length_take, hm]; exact Nat.le_refl _), List.append_assoc, List.length_take, hm, Nat.sub_self]
  congr 1
  simp [List.getD, List.getElem?_eq_getElem h]
theorem part_end (xs : List Int) : part xs xs.length = xs := by simp [part]
theorem part_zero (xs : List Int) : part xs 0 = List.replicate xs.length 0 := by simp [part]

set_option maxRecDepth 100000 in
set_option maxHeartbeats 1000000 in
theorem f20 (ra ca : Nat) (xs : List Int) (w : World) (ha : Src w ra 0 xs) (hl : xs.length ≤ 4000000) :
    Calls Tryf.prog 20 #[.slice (some ⟨ra, 0, none⟩) xs.length ca] w fun e w' => e = .returned (.slice (some ⟨w.heap.size, 0, none⟩) xs.length xs.length) ∧ Row w' w.heap.size 5 xs ∧ Fr [] w w' := by
  obtain ⟨w1, hmk, hrow, hb, hs⟩ := mk xs.length xs.length (Nat.le_refl _) (by omega) w
  rw [← part_zero] at hrow
  have HA := hide ha
  have HR := hide hrow
  have HB := hide hb
  clear ha hrow hb hs
  go_enter Tryf.func20, Tryf.ntmps20
  go_wp2_with fail
  go_loopw [4] (fun i wr => ∃ k : Nat, k ≤ xs.length ∧ i = .int .i64 k ∧ Row wr w.heap.size 5 (part xs k) ∧ Fr [] w wr) (fun i _ => xs.length - (intOf i).toNat)
  case atStart => exact ⟨0, Nat.zero_le _, rfl, HR.out, Fr.of_below HB.out⟩
  case round =>
    obtain ⟨k, hk, rfl, hr, hf⟩ := hrel
    by_cases hlt : k < xs.length
    · have ht : decide ((k : Int) < (xs.length : Int)) = true := by simp; omega
      have c1 := (HA.out.fr hf (by simp)) k hlt
      rw [Nat.zero_add] at c1
      have c2 := hr.cell k (by rw [part_len _ _ hk]; exact hlt)
      have z2 := hr.frozen k
      have HF := hide hf
      have HR2 := hide hr
      clear hf hr
      go_wp2_with fail
      go_roundw
      case rel =>
        refine ⟨k + 1, by omega, by go_num, ?_, HF.out.setCell (p := ⟨w.heap.size, k, none⟩) (.inr (Nat.le_refl _)) _⟩
        have := HR2.out.set k (xs.getD k 0)
        rw [part_step _ _ hlt] at this
        simpa [List.getElem?_eq_getElem hlt] using this
      case measure => simp [intOf]; omega
    · have ht : decide ((k : Int) < (xs.length : Int)) = false := by simp; omega
      have hke : k = xs.length := by omega
      rw [hke, part_end] at hr
      have HF := hide hf
      have HR2 := hide hr
      clear hf hr hke
      go_wp2_with fail
      go_ret
      exact ⟨rfl, HR2.out, HF.out⟩

set_option maxRecDepth 100000 in
set_option maxHeartbeats 2000000 in
theorem f12 (big nano : Bool) (snap link : Int) (w : World) (s0 : 0 ≤ snap) (s1 : snap < 4294967296) (l0 : 0 ≤ link) (l1 : link < 4294967296) :
    Calls Tryf.prog 12 #[.bool big, .bool nano, .int .u32 snap, .int .u32 link] w fun e w' => ∃ g, e = .returned (.tuple #[.slice (some ⟨g, 0, none⟩) 24 24, .bool true]) ∧ Row w' g 5 (hdr big nano snap link) ∧ Below w.heap.size w w' := by
  have P8 := hide (f8 big nano snap link w s0 s1 l0 l1)
  go_enter Tryf.func12, Tryf.ntmps12
  go_wp2_with fail
  refine P8.out.mono ?_
  rintro e w2 ⟨pw, bw, bs, rfl, hM, hk⟩
  have p29 := f29n bw bs w.heap.size 24 _ w2 hM.b hM.r hM.l hk (hk.ne_row hM.r) (hk.ne hM.b) (by decide) (by decide)
  rw [xs0_take] at p29
  have P10 := hide (f10 pw bw _ _ w2 _ hM.p p29)
  have HM := hide hM
  clear hM hk p29
  go_wp2_with fail
  refine P10.out.mono ?_
  rintro e w3 ⟨rfl, hB3, hK3, hR3, hF3⟩
  have hM := HM.out
  have hlen := hdr_len big nano snap link
  have p9 := f9 _ _ _ w3 hK3
  have p20 := fun c => f20 w2.heap.size c (hdr big nano snap link) w3.drew hK3.src (by omega)
  rw [hlen] at p9 p20
  have P9 := hide p9
  have P20 := hide p20
  have b3 := hM.f.trans (hF3.below hM.f.size (by have := hM.h2; simp; omega))
  have Hb3 := hide b3
  clear hM hlen p9 p20 b3 hB3 hK3 hR3 hF3
  go_wp2_with fail
  refine P9.out.mono ?_
  rintro e w4 ⟨cap2, rfl, rfl⟩
  go_wp2_with fail
  refine (P20.out cap2).mono ?_
  rintro e w4 ⟨rfl, hr4, hF4⟩
  have H4 := hide (And.intro hr4 (fr_drew hF4))
  clear hr4 hF4
  go_wp2_with fail
  go_ret2
  exact ⟨_, rfl, H4.out.1, Hb3.out.trans (H4.out.2.below Hb3.out.size (by simp))⟩

end Go.Proofs.Qxb6616725aFmt
