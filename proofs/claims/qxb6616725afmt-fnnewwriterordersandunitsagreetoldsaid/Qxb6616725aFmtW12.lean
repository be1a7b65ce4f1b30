/-
  zzMirrored.
-/
import Derived.Test.Qxb6616725aFmtW10
namespace Go.Proofs.Qxb6616725aFmt
open Go.RowKit
set_option linter.unusedVariables false

/-- The header's fields: where each begins, how wide it is. -/
def offs (k : Nat) : Nat := if k = 0 then 0 else if k = 1 then 4 else if k = 2 then 6 else 4 * k - 4
def wd (k : Nat) : Nat := if k = 1 ∨ k = 2 then 2 else 4
theorem offs_step (k : Nat) : offs (k + 1) = offs k + wd k := by
  unfold offs wd
  by_cases h0 : k = 0
  · subst h0; rfl
  · by_cases h1 : k = 1
    · subst h1; rfl
    · by_cases h2 : k = 2
      · subst h2; rfl
      · simp [h0, h1, h2]; omega
theorem offs_le (k : Nat) (h : k < 7) : offs k + wd k ≤ 24 := by
  unfold offs wd
  by_cases h0 : k = 0
  · subst h0; decide
  · by_cases h1 : k = 1
    · subst h1; decide
    · by_cases h2 : k = 2
      · subst h2; decide
      · simp [h0, h1, h2]; omega
/-- Each field of the one is the other's, byte by byte, turned round. -/
def Mir (A B : List Int) : Prop := ∀ k, k < 7 → ∀ i, i < wd k → A.getD (offs k + i) 0 = B.getD (offs k + wd k - 1 - i) 0

set_option maxRecDepth 100000 in
set_option maxHeartbeats 4000000 in
theorem f13 (ga gb : Nat) (A B : List Int) (w : World) (ha : Row w ga 5 A) (hb : Row w gb 5 B) (hA : A.length = 24) (hB : B.length = 24) (hm : Mir A B) :
    Calls Tryf.prog 13 #[.slice (some ⟨ga, 0, none⟩) 24 24, .slice (some ⟨gb, 0, none⟩) 24 24] w fun e w' => e = .returned (.bool true) ∧ Fr [] w w' := by
  have HA := hide ha
  have HB := hide hb
  have HM := hide hm
  have HL := hide (And.intro hA hB)
  clear ha hb hm hA hB
  go_enter Tryf.func13, Tryf.ntmps13
  go_wp2_with fail
  go_loopw [5, 6] (fun o i wr => ∃ k : Nat, k ≤ 7 ∧ o = .int .i64 (offs k) ∧ i = .int .i64 k ∧ Fr [] w wr) (fun _ i _ => 7 - (intOf i).toNat)
  case atStart => exact ⟨0, Nat.zero_le _, rfl, rfl, Fr.refl _ _⟩
  case round =>
    obtain ⟨k, hk, rfl, rfl, hf⟩ := hrel
    obtain ⟨o, ho⟩ : ∃ o, o = offs k := ⟨_, rfl⟩
    rw [← ho]
    by_cases hlt : k < 7
    · have ht : decide ((k : Int) < 7) = true := by simp; omega
      have hob := offs_le k hlt
      rw [← ho] at hob
      have hst := offs_step k
      rw [← ho] at hst
      have HO := hide ho
      clear ho
      have h3 : k = 1 ∨ k = 2 ∨ (¬ k = 1 ∧ ¬ k = 2) := by omega
      rcases h3 with h3 | h3 | h3
      · have e1 : ((k : Int) == 1) = true := by simp; omega
        have hw : wd k = 2 := by unfold wd; simp [h3]
        rw [hw] at hob hst
        have HF := hide hf
        have HST := hide hst
        have HW := hide hw
        clear hf hst hw
        clear h3
        go_wp2_with fail
        go_loopw [8] (fun j wq => ∃ i : Nat, i ≤ 2 ∧ j = .int .i64 i ∧ Fr [] w wq) (fun j _ => 2 - (intOf j).toNat)
        case atStart => exact ⟨0, Nat.zero_le _, rfl, HF.out⟩
        case round =>
          obtain ⟨i, hi, rfl, hf⟩ := hrel
          by_cases hil : i < 2
          · have hxy := HM.out k hlt i (by rw [HW.out]; exact hil)
            rw [HW.out, ← HO.out] at hxy
            have hi4 : i = 0 ∨ i = 1 := by omega
            rcases hi4 with rfl | rfl
            · have hqe : o + 2 - 1 - 0 = o + 1 := by omega
              rw [hqe] at hxy
              obtain ⟨x, hx⟩ : ∃ x, x = A.getD (o) 0 := ⟨_, rfl⟩
              have hxb : x = B.getD (o + 1) 0 := hx.trans hxy
              have c1 : wr.cell? ⟨ga, o, none⟩ = some (.int .u8 x) := by
                rw [hx]; exact (HA.out.fr hf (by simp)).cell (o) (by have := HL.out.1; omega)
              have c2 : wr.cell? ⟨gb, o + 1, none⟩ = some (.int .u8 x) := by
                rw [hxb]; exact (HB.out.fr hf (by simp)).cell (o + 1) (by have := HL.out.2; omega)
              have HF2 := hide hf
              clear hf hx hxb hqe hxy hil hi
              go_wp2_with fail
              go_region
              go_wp2_with fail
              go_roundw
              case rel => exact ⟨1, by omega, rfl, HF2.out.drew⟩
              case measure => simp [intOf]
            · have hqe : o + 2 - 1 - 1 = o := by omega
              rw [hqe] at hxy
              obtain ⟨x, hx⟩ : ∃ x, x = A.getD (o + 1) 0 := ⟨_, rfl⟩
              have hxb : x = B.getD (o) 0 := hx.trans hxy
              have c1 : wr.cell? ⟨ga, o + 1, none⟩ = some (.int .u8 x) := by
                rw [hx]; exact (HA.out.fr hf (by simp)).cell (o + 1) (by have := HL.out.1; omega)
              have c2 : wr.cell? ⟨gb, o, none⟩ = some (.int .u8 x) := by
                rw [hxb]; exact (HB.out.fr hf (by simp)).cell (o) (by have := HL.out.2; omega)
              have HF2 := hide hf
              clear hf hx hxb hqe hxy hil hi
              go_wp2_with fail
              go_region
              go_wp2_with fail
              go_roundw
              case rel => exact ⟨2, by omega, rfl, HF2.out.drew⟩
              case measure => simp [intOf]
          · have ht2 : decide ((i : Int) < 2) = false := by simp; omega
            have HF2 := hide hf
            clear hf
            have y1 : IntKind.i64.wrap ((o : Int) + 2) = (o : Int) + 2 := by rw [IntKind.wrap_i64]; omega
            go_wp2_with fail
            go_roundw
            case rel => exact ⟨k + 1, by omega, by rw [HST.out]; go_num, by go_num, HF2.out⟩
            case measure => simp [intOf]; omega
      · have e1 : ((k : Int) == 1) = false := by simp; omega
        have e2 : ((k : Int) == 2) = true := by simp; omega
        have hw : wd k = 2 := by unfold wd; simp [h3]
        rw [hw] at hob hst
        have HF := hide hf
        have HST := hide hst
        have HW := hide hw
        clear hf hst hw
        clear h3
        go_wp2_with fail
        go_loopw [8] (fun j wq => ∃ i : Nat, i ≤ 2 ∧ j = .int .i64 i ∧ Fr [] w wq) (fun j _ => 2 - (intOf j).toNat)
        case atStart => exact ⟨0, Nat.zero_le _, rfl, HF.out⟩
        case round =>
          obtain ⟨i, hi, rfl, hf⟩ := hrel
          by_cases hil : i < 2
          · have hxy := HM.out k hlt i (by rw [HW.out]; exact hil)
            rw [HW.out, ← HO.out] at hxy
            have hi4 : i = 0 ∨ i = 1 := by omega
            rcases hi4 with rfl | rfl
            · have hqe : o + 2 - 1 - 0 = o + 1 := by omega
              rw [hqe] at hxy
              obtain ⟨x, hx⟩ : ∃ x, x = A.getD (o) 0 := ⟨_, rfl⟩
              have hxb : x = B.getD (o + 1) 0 := hx.trans hxy
              have c1 : wr.cell? ⟨ga, o, none⟩ = some (.int .u8 x) := by
                rw [hx]; exact (HA.out.fr hf (by simp)).cell (o) (by have := HL.out.1; omega)
              have c2 : wr.cell? ⟨gb, o + 1, none⟩ = some (.int .u8 x) := by
                rw [hxb]; exact (HB.out.fr hf (by simp)).cell (o + 1) (by have := HL.out.2; omega)
              have HF2 := hide hf
              clear hf hx hxb hqe hxy hil hi
              go_wp2_with fail
              go_region
              go_wp2_with fail
              go_roundw
              case rel => exact ⟨1, by omega, rfl, HF2.out.drew⟩
              case measure => simp [intOf]
            · have hqe : o + 2 - 1 - 1 = o := by omega
              rw [hqe] at hxy
              obtain ⟨x, hx⟩ : ∃ x, x = A.getD (o + 1) 0 := ⟨_, rfl⟩
              have hxb : x = B.getD (o) 0 := hx.trans hxy
              have c1 : wr.cell? ⟨ga, o + 1, none⟩ = some (.int .u8 x) := by
                rw [hx]; exact (HA.out.fr hf (by simp)).cell (o + 1) (by have := HL.out.1; omega)
              have c2 : wr.cell? ⟨gb, o, none⟩ = some (.int .u8 x) := by
                rw [hxb]; exact (HB.out.fr hf (by simp)).cell (o) (by have := HL.out.2; omega)
              have HF2 := hide hf
              clear hf hx hxb hqe hxy hil hi
              go_wp2_with fail
              go_region
              go_wp2_with fail
              go_roundw
              case rel => exact ⟨2, by omega, rfl, HF2.out.drew⟩
              case measure => simp [intOf]
          · have ht2 : decide ((i : Int) < 2) = false := by simp; omega
            have HF2 := hide hf
            clear hf
            have y1 : IntKind.i64.wrap ((o : Int) + 2) = (o : Int) + 2 := by rw [IntKind.wrap_i64]; omega
            go_wp2_with fail
            go_roundw
            case rel => exact ⟨k + 1, by omega, by rw [HST.out]; go_num, by go_num, HF2.out⟩
            case measure => simp [intOf]; omega
      · have e1 : ((k : Int) == 1) = false := by simp; omega
        have e2 : ((k : Int) == 2) = false := by simp; omega
        have hw : wd k = 4 := by unfold wd; simp [h3]
        rw [hw] at hob hst
        have HF := hide hf
        have HST := hide hst
        have HW := hide hw
        clear hf hst hw
        clear h3
        go_wp2_with fail
        go_loopw [8] (fun j wq => ∃ i : Nat, i ≤ 4 ∧ j = .int .i64 i ∧ Fr [] w wq) (fun j _ => 4 - (intOf j).toNat)
        case atStart => exact ⟨0, Nat.zero_le _, rfl, HF.out⟩
        case round =>
          obtain ⟨i, hi, rfl, hf⟩ := hrel
          by_cases hil : i < 4
          · have hxy := HM.out k hlt i (by rw [HW.out]; exact hil)
            rw [HW.out, ← HO.out] at hxy
            have hi4 : i = 0 ∨ i = 1 ∨ i = 2 ∨ i = 3 := by omega
            rcases hi4 with rfl | rfl | rfl | rfl
            · have hqe : o + 4 - 1 - 0 = o + 3 := by omega
              rw [hqe] at hxy
              obtain ⟨x, hx⟩ : ∃ x, x = A.getD (o) 0 := ⟨_, rfl⟩
              have hxb : x = B.getD (o + 3) 0 := hx.trans hxy
              have c1 : wr.cell? ⟨ga, o, none⟩ = some (.int .u8 x) := by
                rw [hx]; exact (HA.out.fr hf (by simp)).cell (o) (by have := HL.out.1; omega)
              have c2 : wr.cell? ⟨gb, o + 3, none⟩ = some (.int .u8 x) := by
                rw [hxb]; exact (HB.out.fr hf (by simp)).cell (o + 3) (by have := HL.out.2; omega)
              have HF2 := hide hf
              clear hf hx hxb hqe hxy hil hi
              go_wp2_with fail
              go_region
              go_wp2_with fail
              go_roundw
              case rel => exact ⟨1, by omega, rfl, HF2.out.drew⟩
              case measure => simp [intOf]
            · have hqe : o + 4 - 1 - 1 = o + 2 := by omega
              rw [hqe] at hxy
              obtain ⟨x, hx⟩ : ∃ x, x = A.getD (o + 1) 0 := ⟨_, rfl⟩
              have hxb : x = B.getD (o + 2) 0 := hx.trans hxy
              have c1 : wr.cell? ⟨ga, o + 1, none⟩ = some (.int .u8 x) := by
                rw [hx]; exact (HA.out.fr hf (by simp)).cell (o + 1) (by have := HL.out.1; omega)
              have c2 : wr.cell? ⟨gb, o + 2, none⟩ = some (.int .u8 x) := by
                rw [hxb]; exact (HB.out.fr hf (by simp)).cell (o + 2) (by have := HL.out.2; omega)
              have HF2 := hide hf
              clear hf hx hxb hqe hxy hil hi
              go_wp2_with fail
              go_region
              go_wp2_with fail
              go_roundw
              case rel => exact ⟨2, by omega, rfl, HF2.out.drew⟩
              case measure => simp [intOf]
            · have hqe : o + 4 - 1 - 2 = o + 1 := by omega
              rw [hqe] at hxy
              obtain ⟨x, hx⟩ : ∃ x, x = A.getD (o + 2) 0 := ⟨_, rfl⟩
              have hxb : x = B.getD (o + 1) 0 := hx.trans hxy
              have c1 : wr.cell? ⟨ga, o + 2, none⟩ = some (.int .u8 x) := by
                rw [hx]; exact (HA.out.fr hf (by simp)).cell (o + 2) (by have := HL.out.1; omega)
              have c2 : wr.cell? ⟨gb, o + 1, none⟩ = some (.int .u8 x) := by
                rw [hxb]; exact (HB.out.fr hf (by simp)).cell (o + 1) (by have := HL.out.2; omega)
              have HF2 := hide hf
              clear hf hx hxb hqe hxy hil hi
              go_wp2_with fail
              go_region
              go_wp2_with fail
              go_roundw
              case rel => exact ⟨3, by omega, rfl, HF2.out.drew⟩
              case measure => simp [intOf]
            · have hqe : o + 4 - 1 - 3 = o := by omega
              rw [hqe] at hxy
              obtain ⟨x, hx⟩ : ∃ x, x = A.getD (o + 3) 0 := ⟨_, rfl⟩
              have hxb : x = B.getD (o) 0 := hx.trans hxy
              have c1 : wr.cell? ⟨ga, o + 3, none⟩ = some (.int .u8 x) := by
                rw [hx]; exact (HA.out.fr hf (by simp)).cell (o + 3) (by have := HL.out.1; omega)
              have c2 : wr.cell? ⟨gb, o, none⟩ = some (.int .u8 x) := by
                rw [hxb]; exact (HB.out.fr hf (by simp)).cell (o) (by have := HL.out.2; omega)
              have HF2 := hide hf
              clear hf hx hxb hqe hxy hil hi
              go_wp2_with fail
              go_region
              go_wp2_with fail
              go_roundw
              case rel => exact ⟨4, by omega, rfl, HF2.out.drew⟩
              case measure => simp [intOf]
          · have ht2 : decide ((i : Int) < 4) = false := by simp; omega
            have HF2 := hide hf
            clear hf
            have y1 : IntKind.i64.wrap ((o : Int) + 4) = (o : Int) + 4 := by rw [IntKind.wrap_i64]; omega
            go_wp2_with fail
            go_roundw
            case rel => exact ⟨k + 1, by omega, by rw [HST.out]; go_num, by go_num, HF2.out⟩
            case measure => simp [intOf]; omega
    · have ht : decide ((k : Int) < 7) = false := by simp; omega
      have HF := hide hf
      clear hf ho
      go_wp2_with fail
      go_ret
      exact ⟨rfl, HF.out⟩
end Go.Proofs.Qxb6616725aFmt
