/-
  The second law's walk.
-/
import Derived.Test.Qxb6616725aFmtW11
import Derived.Test.Qxb6616725aFmtW12
namespace Go.Proofs.Qxb6616725aFmt
open Go.RowKit
set_option linter.unusedVariables false

theorem mir_hdr (nano : Bool) (snap link : Int) : Mir (hdr true nano snap link) (hdr false nano snap link) := by
  intro k hk i hi
  have h : k = 0 ∨ k = 1 ∨ k = 2 ∨ k = 3 ∨ k = 4 ∨ k = 5 ∨ k = 6 := by omega
  rcases h with rfl | rfl | rfl | rfl | rfl | rfl | rfl
  all_goals
    first
    | (have h : i = 0 ∨ i = 1 ∨ i = 2 ∨ i = 3 := by (have : i < 4 := hi); omega
       rcases h with rfl | rfl | rfl | rfl <;> rfl)
    | (have h : i = 0 ∨ i = 1 := by (have : i < 2 := hi); omega
       rcases h with rfl | rfl <;> rfl)
theorem hdr_units (big : Bool) (snap link : Int) (i : Nat) (h : 4 ≤ i) (h2 : i < 24) : (hdr big false snap link).getD i 0 = (hdr big true snap link).getD i 0 := by
  obtain ⟨j, rfl⟩ : ∃ j, i = j + 4 := ⟨i - 4, by omega⟩
  cases big <;> rfl

theorem get_be (g o : Nat) (xs : List Int) (v : Int) (w : World) (h : Row w g 5 xs) (hx : xs.length = 24) (ho : o + 4 ≤ 24) (v0 : 0 ≤ v) (v1 : v < 4294967296)
    (e : xs.getD o 0 = v / 16777216 ∧ xs.getD (o + 1) 0 = v / 65536 % 256 ∧ xs.getD (o + 2) 0 = v / 256 % 256 ∧ xs.getD (o + 3) 0 = v % 256) :
    Calls Tryf.prog 14 #[.slice (some ⟨g, 0, none⟩) 24 24, .int .i64 o, .bool true] w fun e w' => e = .returned (.int .u32 v) ∧ Fr [] w w' :=
  f14_be g 24 24 o v w v0 v1 (e.1 ▸ h.cell o (by omega)) (e.2.1 ▸ h.cell (o + 1) (by omega)) (e.2.2.1 ▸ h.cell (o + 2) (by omega)) (e.2.2.2 ▸ h.cell (o + 3) (by omega)) ho (by decide)
theorem get_le (g o : Nat) (xs : List Int) (v : Int) (w : World) (h : Row w g 5 xs) (hx : xs.length = 24) (ho : o + 4 ≤ 24) (v0 : 0 ≤ v) (v1 : v < 4294967296)
    (e : xs.getD o 0 = v % 256 ∧ xs.getD (o + 1) 0 = v / 256 % 256 ∧ xs.getD (o + 2) 0 = v / 65536 % 256 ∧ xs.getD (o + 3) 0 = v / 16777216) :
    Calls Tryf.prog 14 #[.slice (some ⟨g, 0, none⟩) 24 24, .int .i64 o, .bool false] w fun e w' => e = .returned (.int .u32 v) ∧ Fr [] w w' :=
  f14_le g 24 24 o v w v0 v1 (e.1 ▸ h.cell o (by omega)) (e.2.1 ▸ h.cell (o + 1) (by omega)) (e.2.2.1 ▸ h.cell (o + 2) (by omega)) (e.2.2.2 ▸ h.cell (o + 3) (by omega)) ho (by decide)
theorem get16_be (g o : Nat) (xs : List Int) (v : Int) (w : World) (h : Row w g 5 xs) (hx : xs.length = 24) (ho : o + 2 ≤ 24) (v0 : 0 ≤ v) (v1 : v < 65536)
    (e : xs.getD o 0 = v / 256 ∧ xs.getD (o + 1) 0 = v % 256) :
    Calls Tryf.prog 15 #[.slice (some ⟨g, 0, none⟩) 24 24, .int .i64 o, .bool true] w fun e w' => e = .returned (.int .u16 v) ∧ Fr [] w w' :=
  f15_be g 24 24 o v w v0 v1 (e.1 ▸ h.cell o (by omega)) (e.2 ▸ h.cell (o + 1) (by omega)) ho (by decide)

/-- Four clones, each in a block of its own. -/
structure Four (w : World) (g1 g2 g3 g4 : Nat) (snap link : Int) : Prop where
  a : Row w g1 5 (hdr true false snap link)
  b : Row w g2 5 (hdr false false snap link)
  c : Row w g3 5 (hdr true true snap link)
  d : Row w g4 5 (hdr false true snap link)
theorem Four.fr {w w' : World} {g1 g2 g3 g4 : Nat} {snap link : Int} (h : Four w g1 g2 g3 g4 snap link) (f : Fr [] w w') : Four w' g1 g2 g3 g4 snap link :=
  ⟨h.a.fr f (by simp), h.b.fr f (by simp), h.c.fr f (by simp), h.d.fr f (by simp)⟩
theorem Row.below {w w' : World} {g : Nat} {T : TypeId} {xs : List Int} (h : Row w g T xs) (f : Below w.heap.size w w') : Row w' g T xs := (f.block g h.lt).trans h

set_option maxRecDepth 100000 in
set_option maxHeartbeats 4000000 in
theorem f4 (snap link : Int) (w : World) (s0 : 0 ≤ snap) (s1 : snap < 4294967296) (l0 : 0 ≤ link) (l1 : link < 4294967296) :
    Calls Tryf.prog 4 #[.int .u32 snap, .int .u32 link] w fun e w' => e = .returned (.bool true) ∧ Below w.heap.size w w' := by
  have P := hide (fun big nano w => f12 big nano snap link w s0 s1 l0 l1)
  go_enter Tryf.func4, Tryf.ntmps4
  go_wp2_with fail
  refine (P.out _ _ _).mono ?_
  rintro e w1 ⟨g1, rfl, h1, b1⟩
  have H1 := hide (And.intro h1 b1)
  clear h1 b1
  go_wp2_with fail
  refine (P.out _ _ _).mono ?_
  rintro e w2 ⟨g2, rfl, h2, b2⟩
  have H2 := hide (And.intro h2 b2)
  clear h2 b2
  go_wp2_with fail
  refine (P.out _ _ _).mono ?_
  rintro e w3 ⟨g3, rfl, h3, b3⟩
  have H3 := hide (And.intro h3 b3)
  clear h3 b3
  go_wp2_with fail
  refine (P.out _ _ _).mono ?_
  rintro e w4 ⟨g4, rfl, h4, b4⟩
  have hF : Four w4 g1 g2 g3 g4 snap link := ⟨((H1.out.1.below H2.out.2).below H3.out.2).below b4, (H2.out.1.below H3.out.2).below b4, H3.out.1.below b4, h4⟩
  have hb : Below w.heap.size w w4 := by
    have q1 := H1.out.2
    have q2 := q1.trans (H2.out.2.mono q1.size)
    have q3 := q2.trans (H3.out.2.mono q2.size)
    exact q3.trans (b4.mono q3.size)
  have PM := hide (f13 g1 g2 _ _ w4 hF.a hF.b (hdr_len _ _ _ _) (hdr_len _ _ _ _) (mir_hdr _ _ _))
  have HF := hide hF
  have HB := hide hb
  clear hF hb h4 b4 H1 H2 H3 P
  go_wp2_with fail
  refine PM.out.mono ?_
  rintro e w5 ⟨rfl, f5⟩
  have hF := HF.out.fr f5
  have hb := HB.out.trans (f5.below HB.out.size (by simp))
  have PM2 := hide (f13 g3 g4 _ _ w5 hF.c hF.d (hdr_len _ _ _ _) (hdr_len _ _ _ _) (mir_hdr _ _ _))
  clear HF HB f5
  have HF := hide hF
  have HB := hide hb
  clear hF hb PM
  go_wp2_with fail
  refine PM2.out.mono ?_
  rintro e w6 ⟨rfl, f6⟩
  have hF := HF.out.fr f6
  have hb := HB.out.trans (f6.below HB.out.size (by simp))
  clear HF HB f6
  have HF := hide hF
  have HB := hide hb
  clear hF hb PM2
  go_wp2_with fail
  go_loopw [13] (fun i wr => ∃ k : Nat, 4 ≤ k ∧ k ≤ 24 ∧ i = .int .i64 k ∧ Four wr g1 g2 g3 g4 snap link ∧ Below w.heap.size w wr) (fun i _ => 24 - (intOf i).toNat)
  case atStart => exact ⟨4, by omega, by omega, rfl, HF.out, HB.out⟩
  case round =>
    obtain ⟨k, hk4, hk, rfl, hF, hb⟩ := hrel
    by_cases hlt : k < 24
    · have ht : decide ((k : Int) < 24) = true := by simp; omega
      have l := fun big nano => hdr_len big nano snap link
      obtain ⟨x, hx⟩ : ∃ x, x = (hdr true false snap link).getD k 0 := ⟨_, rfl⟩
      obtain ⟨y, hy⟩ : ∃ y, y = (hdr false false snap link).getD k 0 := ⟨_, rfl⟩
      have c1 : wr.cell? ⟨g1, k, none⟩ = some (.int .u8 x) := by rw [hx]; exact hF.a.cell k (by rw [l]; exact hlt)
      have c3 : wr.cell? ⟨g3, k, none⟩ = some (.int .u8 x) := by rw [hx, hdr_units true snap link k hk4 hlt]; exact hF.c.cell k (by rw [l]; exact hlt)
      have c2 : wr.cell? ⟨g2, k, none⟩ = some (.int .u8 y) := by rw [hy]; exact hF.b.cell k (by rw [l]; exact hlt)
      have c4 : wr.cell? ⟨g4, k, none⟩ = some (.int .u8 y) := by rw [hy, hdr_units false snap link k hk4 hlt]; exact hF.d.cell k (by rw [l]; exact hlt)
      have HF2 := hide hF
      have HB2 := hide hb
      clear hF hb hx hy l HF HB
      go_wp2_with fail
      go_quiet (fail)
      go_wp2_with fail
      go_roundw
      case rel => exact ⟨k + 1, by omega, by omega, by go_num, HF2.out.fr ((Fr.refl [] wr).drewN _), below_drewN HB2.out _⟩
      case measure => simp [intOf]; omega
    · have ht : decide ((k : Int) < 24) = false := by simp; omega
      have HF2 := hide hF
      have HB2 := hide hb
      clear hF hb HF HB
      go_wp2_with fail
      refine (get_be g1 0 _ 2712847316 _ HF2.out.a (hdr_len _ _ _ _) (by decide) (by decide) (by decide) ⟨rfl, rfl, rfl, rfl⟩).mono ?_
      rintro e v0 ⟨rfl, fr⟩
      have hF := HF2.out.fr fr
      have hb := HB2.out.trans (fr.below HB2.out.size (by simp))
      clear HF2 HB2 fr
      have HF2 := hide hF
      have HB2 := hide hb
      clear hF hb
      go_wp2_with fail
      refine (get_le g2 0 _ 2712847316 _ HF2.out.b (hdr_len _ _ _ _) (by decide) (by decide) (by decide) ⟨rfl, rfl, rfl, rfl⟩).mono ?_
      rintro e v1 ⟨rfl, fr⟩
      have hF := HF2.out.fr fr
      have hb := HB2.out.trans (fr.below HB2.out.size (by simp))
      clear HF2 HB2 fr
      have HF2 := hide hF
      have HB2 := hide hb
      clear hF hb
      go_wp2_with fail
      refine (get_be g3 0 _ 2712812621 _ HF2.out.c (hdr_len _ _ _ _) (by decide) (by decide) (by decide) ⟨rfl, rfl, rfl, rfl⟩).mono ?_
      rintro e v2 ⟨rfl, fr⟩
      have hF := HF2.out.fr fr
      have hb := HB2.out.trans (fr.below HB2.out.size (by simp))
      clear HF2 HB2 fr
      have HF2 := hide hF
      have HB2 := hide hb
      clear hF hb
      go_wp2_with fail
      refine (get_le g4 0 _ 2712812621 _ HF2.out.d (hdr_len _ _ _ _) (by decide) (by decide) (by decide) ⟨rfl, rfl, rfl, rfl⟩).mono ?_
      rintro e v3 ⟨rfl, fr⟩
      have hF := HF2.out.fr fr
      have hb := HB2.out.trans (fr.below HB2.out.size (by simp))
      clear HF2 HB2 fr
      have HF2 := hide hF
      have HB2 := hide hb
      clear hF hb
      go_wp2_with fail
      refine (get16_be g1 4 _ 2 _ HF2.out.a (hdr_len _ _ _ _) (by decide) (by decide) (by decide) ⟨rfl, rfl⟩).mono ?_
      rintro e v4 ⟨rfl, fr⟩
      have hF := HF2.out.fr fr
      have hb := HB2.out.trans (fr.below HB2.out.size (by simp))
      clear HF2 HB2 fr
      have HF2 := hide hF
      have HB2 := hide hb
      clear hF hb
      go_wp2_with fail
      refine (get16_be g1 6 _ 4 _ HF2.out.a (hdr_len _ _ _ _) (by decide) (by decide) (by decide) ⟨rfl, rfl⟩).mono ?_
      rintro e v5 ⟨rfl, fr⟩
      have hF := HF2.out.fr fr
      have hb := HB2.out.trans (fr.below HB2.out.size (by simp))
      clear HF2 HB2 fr
      have HF2 := hide hF
      have HB2 := hide hb
      clear hF hb
      go_wp2_with fail
      refine (get_be g1 8 _ 0 _ HF2.out.a (hdr_len _ _ _ _) (by decide) (by decide) (by decide) ⟨rfl, rfl, rfl, rfl⟩).mono ?_
      rintro e v6 ⟨rfl, fr⟩
      have hF := HF2.out.fr fr
      have hb := HB2.out.trans (fr.below HB2.out.size (by simp))
      clear HF2 HB2 fr
      have HF2 := hide hF
      have HB2 := hide hb
      clear hF hb
      go_wp2_with fail
      refine (get_be g1 12 _ 0 _ HF2.out.a (hdr_len _ _ _ _) (by decide) (by decide) (by decide) ⟨rfl, rfl, rfl, rfl⟩).mono ?_
      rintro e v7 ⟨rfl, fr⟩
      have hF := HF2.out.fr fr
      have hb := HB2.out.trans (fr.below HB2.out.size (by simp))
      clear HF2 HB2 fr
      have HF2 := hide hF
      have HB2 := hide hb
      clear hF hb
      go_wp2_with fail
      refine (get_be g1 16 _ snap _ HF2.out.a (hdr_len _ _ _ _) (by decide) s0 s1 ⟨rfl, rfl, rfl, rfl⟩).mono ?_
      rintro e v8 ⟨rfl, fr⟩
      have hF := HF2.out.fr fr
      have hb := HB2.out.trans (fr.below HB2.out.size (by simp))
      clear HF2 HB2 fr
      have HF2 := hide hF
      have HB2 := hide hb
      clear hF hb
      go_wp2_with fail
      refine (get_be g1 20 _ link _ HF2.out.a (hdr_len _ _ _ _) (by decide) l0 l1 ⟨rfl, rfl, rfl, rfl⟩).mono ?_
      rintro e v9 ⟨rfl, fr⟩
      have hF := HF2.out.fr fr
      have hb := HB2.out.trans (fr.below HB2.out.size (by simp))
      clear HF2 HB2 fr
      have HF2 := hide hF
      have HB2 := hide hb
      clear hF hb
      go_wp2_with fail
      refine (get_le g2 16 _ snap _ HF2.out.b (hdr_len _ _ _ _) (by decide) s0 s1 ⟨rfl, rfl, rfl, rfl⟩).mono ?_
      rintro e v10 ⟨rfl, fr⟩
      have hF := HF2.out.fr fr
      have hb := HB2.out.trans (fr.below HB2.out.size (by simp))
      clear HF2 HB2 fr
      have HF2 := hide hF
      have HB2 := hide hb
      clear hF hb
      go_wp2_with fail
      refine (get_le g2 20 _ link _ HF2.out.b (hdr_len _ _ _ _) (by decide) l0 l1 ⟨rfl, rfl, rfl, rfl⟩).mono ?_
      rintro e v11 ⟨rfl, fr⟩
      have hF := HF2.out.fr fr
      have hb := HB2.out.trans (fr.below HB2.out.size (by simp))
      clear HF2 HB2 fr
      have HF2 := hide hF
      have HB2 := hide hb
      clear hF hb
      go_wp2_with fail
      go_ret
      exact ⟨rfl, HB2.out⟩
end Go.Proofs.Qxb6616725aFmt
