/-
  THE WALKS, 5: escape.
-/
import Derived.Test.Qxb6616667aDoorW4
namespace Go.Proofs.Qxb6616667aDoor
open Go.RowKit

/-- What the fields of a token that was cut hold, of the ValidScan in block g. -/
structure Scan (w : World) (g : Nat) (cut : ByteArray) (l : Bool) (h : Int) (num : Int) (lit : ByteArray) : Prop where
  c5 : w.cell? ⟨g, 5, none⟩ = some (.string cut)
  c6 : w.cell? ⟨g, 6, none⟩ = some (.bool l)
  c7 : w.cell? ⟨g, 7, none⟩ = some (.int .i64 h)
  c8 : w.cell? ⟨g, 8, none⟩ = some (.int .i64 num)
  c9 : w.cell? ⟨g, 9, none⟩ = some (.string lit)
  f5 : w.frozen? ⟨g, 5, none⟩ = false
  f6 : w.frozen? ⟨g, 6, none⟩ = false
  f7 : w.frozen? ⟨g, 7, none⟩ = false
  f8 : w.frozen? ⟨g, 8, none⟩ = false
  f9 : w.frozen? ⟨g, 9, none⟩ = false

theorem Scan.below {w w' : World} {g B : Nat} {cut : ByteArray} {l : Bool} {h num : Int} {lit : ByteArray} (s : Scan w g cut l h num lit) (hb : Below B w w') (hg : g < B) : Scan w' g cut l h num lit := by
  obtain ⟨a5, a6, a7, a8, a9, b5, b6, b7, b8, b9⟩ := s
  constructor
  all_goals first | (rw [hb.cell hg]; assumption) | (rw [hb.frozen hg]; assumption)

theorem Scan.set6 {w : World} {g : Nat} {cut : ByteArray} {l : Bool} {h num : Int} {lit : ByteArray} (s : Scan w g cut l h num lit) (l' : Bool) : Scan (w.setCell ⟨g, 6, none⟩ (.bool l')) g cut l' h num lit := by
  obtain ⟨a5, a6, a7, a8, a9, b5, b6, b7, b8, b9⟩ := s
  constructor <;> simp [go_sem, *]
theorem Scan.set7 {w : World} {g : Nat} {cut : ByteArray} {l : Bool} {h num : Int} {lit : ByteArray} (s : Scan w g cut l h num lit) (h' : Int) : Scan (w.setCell ⟨g, 7, none⟩ (.int .i64 h')) g cut l h' num lit := by
  obtain ⟨a5, a6, a7, a8, a9, b5, b6, b7, b8, b9⟩ := s
  constructor <;> simp [go_sem, *]
theorem Scan.set5 {w : World} {g : Nat} {cut : ByteArray} {l : Bool} {h num : Int} {lit : ByteArray} (s : Scan w g cut l h num lit) (v : ByteArray) : Scan (w.setCell ⟨g, 5, none⟩ (.string v)) g v l h num lit := by
  obtain ⟨a5, a6, a7, a8, a9, b5, b6, b7, b8, b9⟩ := s
  constructor <;> simp [go_sem, *]
theorem Scan.set8 {w : World} {g : Nat} {cut : ByteArray} {l : Bool} {h num : Int} {lit : ByteArray} (s : Scan w g cut l h num lit) (v : Int) : Scan (w.setCell ⟨g, 8, none⟩ (.int .i64 v)) g cut l h v lit := by
  obtain ⟨a5, a6, a7, a8, a9, b5, b6, b7, b8, b9⟩ := s
  constructor <;> simp [go_sem, *]
theorem Scan.set9 {w : World} {g : Nat} {cut : ByteArray} {l : Bool} {h num : Int} {lit : ByteArray} (s : Scan w g cut l h num lit) (v : ByteArray) : Scan (w.setCell ⟨g, 9, none⟩ (.string v)) g cut l h num v := by
  obtain ⟨a5, a6, a7, a8, a9, b5, b6, b7, b8, b9⟩ := s
  constructor <;> simp [go_sem, *]

/-- The bytes from i on, read in the state (L, H), are read as those from j on in the state (l, h). -/
def Same (zs : List Int) (L : Bool) (H : Int) (i : Nat) (l : Bool) (h : Int) (j : Nat) : Prop := ∀ sl sh, Pl.sm L H sl sh (zs.drop i) = (Pl.sm l h sl sh (zs.drop j)).add (j - i)
theorem Same.refl (zs : List Int) (L : Bool) (H : Int) (i : Nat) : Same zs L H i L H i := fun sl sh => by simp [Pl.SR.add]
theorem Same.step {zs : List Int} {L : Bool} {H : Int} {i : Nat} {l : Bool} {h : Int} {j : Nat} (s : Same zs L H i l h j) (hij : i ≤ j) {l' : Bool} {h' : Int}
    (h1 : ∀ sl sh, Pl.sm l h sl sh (zs.drop j) = (Pl.sm l' h' sl sh (zs.drop (j + 1))).up) : Same zs L H i l' h' (j + 1) := fun sl sh => by
  rw [s, h1, Pl.SR.add_up, show j - i + 1 = j + 1 - i from by omega]
theorem hex_yes (zs : List Int) (k : Nat) (hk : k < zs.length) (h : Int) (h0 : 0 < h) (hh : Pl.hexB zs[k] = true) (sl : Bool) (sh : Int) : Pl.sm false h sl sh (zs.drop k) = (Pl.sm false (h - 1) sl sh (zs.drop (k + 1))).up := by
  rw [List.drop_eq_getElem_cons hk, Pl.sm, if_pos h0, if_pos hh]
theorem hex_no (zs : List Int) (k : Nat) (hk : k < zs.length) (h : Int) (h0 : 0 < h) (hh : Pl.hexB zs[k] = false) (sl : Bool) (sh : Int) : Pl.sm false h sl sh (zs.drop k) = ⟨0, false, false, sl, sh⟩ := by
  rw [List.drop_eq_getElem_cons hk, Pl.sm, if_pos h0, if_neg (by simp [hh])]
theorem let_u (zs : List Int) (k : Nat) (hk : k < zs.length) (h : Int) (hh : zs[k] = 117) (sl : Bool) (sh : Int) : Pl.sm true h sl sh (zs.drop k) = (Pl.sm false 4 sl sh (zs.drop (k + 1))).up := by
  rw [List.drop_eq_getElem_cons hk, Pl.sm, if_pos hh]
theorem let_esc (zs : List Int) (k : Nat) (hk : k < zs.length) (h : Int) (hh : Pl.escB zs[k] = true) (sl : Bool) (sh : Int) : Pl.sm true h sl sh (zs.drop k) = (Pl.sm false h sl sh (zs.drop (k + 1))).up := by
  have hne : ¬ zs[k] = 117 := by intro e; rw [e] at hh; revert hh; decide
  rw [List.drop_eq_getElem_cons hk, Pl.sm, if_neg hne, if_pos hh]
theorem let_no (zs : List Int) (k : Nat) (hk : k < zs.length) (h : Int) (h1 : ¬ zs[k] = 117) (hh : Pl.escB zs[k] = false) (sl : Bool) (sh : Int) : Pl.sm true h sl sh (zs.drop k) = ⟨0, false, false, sl, sh⟩ := by
  rw [List.drop_eq_getElem_cons hk, Pl.sm, if_neg h1, if_neg (by simp [hh])]

/-- WHAT escape LEAVES: read on from i in the state (L, H); in memory (l0, h0) before. -/
def EscPost (zs : List Int) (g : Nat) (cut : ByteArray) (num : Int) (lit : ByteArray) (w : World) (i : Nat) (L : Bool) (H : Int) (l0 : Bool) (h0 : Int) (e : Ending) (w' : World) : Prop :=
  ∃ (j : Nat) (ok : Bool) (l' : Bool) (h' : Int), e = .returned (.tuple #[.int .i64 j, .bool ok]) ∧ i ≤ j ∧ j ≤ zs.length ∧ Scan w' g cut l' h' num lit ∧ Below g w w' ∧
    ((ok = true ∧ (j < zs.length → l' = false ∧ h' = 0) ∧ Pl.okSt l' h' ∧ Same zs L H i l' h' j) ∨
     (ok = false ∧ l' = l0 ∧ h' = h0 ∧ ∀ sl sh, Pl.sm L H sl sh (zs.drop i) = ⟨j - i, false, false, sl, sh⟩))

set_option maxHeartbeats 400000 in
theorem f25_hex (B g : Nat) (a : Option Addr) (c : Nat) (zs : List Int) (i : Nat) (cut : ByteArray) (l0 : Bool) (h0 num : Int) (lit : ByteArray) (w : World) (hlen : zs.length ≤ 1048576) (hi : i ≤ zs.length)
    (hb : BytesAt B w a zs) (hs : Scan w g cut l0 h0 num lit) (hh0 : 0 ≤ h0) (hh4 : h0 ≤ 4) :
    Calls Tryd.prog 25 #[.pointer (some ⟨g, 0, none⟩), .slice a zs.length c, .int .i64 i, .bool false] w (EscPost zs g cut num lit w i false h0 l0 h0) := by
  have g6 := hs.c6; have g7 := hs.c7; have q6 := hs.f6; have q7 := hs.f7
  go_enter Tryd.func25, Tryd.ntmps25
  go_wp2_with fail
  go_loop [2, 10] (fun t u => ∃ (k : Nat) (hx : Int), i ≤ k ∧ k ≤ zs.length ∧ 0 ≤ hx ∧ hx ≤ 4 ∧ t = .int .i64 k ∧ u = .int .i64 hx ∧ Same zs false h0 i false hx k) (fun t _ => zs.length - (intOf t).toNat)
  case atStart => exact ⟨i, h0, Nat.le_refl _, hi, hh0, hh4, rfl, rfl, Same.refl _ _ _ _⟩
  case round =>
    obtain ⟨k, hx, hk1, hk2, hx0, hx4, rfl, rfl, hsame⟩ := hrel
    by_cases hgo : 0 < hx ∧ k < zs.length
    · obtain ⟨hx1, hlt⟩ := hgo
      obtain ⟨b, o, rfl, _, hc⟩ := hb k hlt
      have hcase : zs[k] < 48 ∨ (48 ≤ zs[k] ∧ zs[k] ≤ 57) ∨ (57 < zs[k] ∧ zs[k] < 65) ∨ (65 ≤ zs[k] ∧ zs[k] ≤ 70) ∨ (70 < zs[k] ∧ zs[k] < 97) ∨ (97 ≤ zs[k] ∧ zs[k] ≤ 102) ∨ 102 < zs[k] := by omega
      have hN := fun h => hide (hex_no zs k hlt hx hx1 h)
      have hY := fun h => hsame.step hk1 (hex_yes zs k hlt hx hx1 h)
      have HN := hide hN
      have HY := hide hY
      clear hN hY
      have hsN : ∀ sl sh, Pl.hexB zs[k] = false → Pl.sm false h0 sl sh (zs.drop i) = ⟨k - i, false, false, sl, sh⟩ := fun sl sh h => by rw [hsame sl sh, (HN.out h).out sl sh]; simp [Pl.SR.add]
      have HS := hide hsN
      clear hsN
      have hfin : Pl.hexB zs[k] = false → EscPost zs g cut num lit w i false h0 l0 h0 (.returned (.tuple #[.int .i64 k, .bool false])) w := fun h => ⟨k, false, l0, h0, rfl, hk1, hk2, hs, Below.refl _ _, Or.inr ⟨rfl, rfl, rfl, fun sl sh => HS.out sl sh h⟩⟩
      have HF := hide hfin
      clear hfin
      rcases hcase with h | ⟨h, h'⟩ | ⟨h, h'⟩ | ⟨h, h'⟩ | ⟨h, h'⟩ | ⟨h, h'⟩ | h
      · have HX := hide (HF.out (by simp [Pl.hexB, Pl.digB]; omega))
        have t48 : decide (48 ≤ zs[k]) = false := decide_eq_false (by omega)
        have t97 : decide (97 ≤ zs[k]) = false := decide_eq_false (by omega)
        have t65 : decide (65 ≤ zs[k]) = false := decide_eq_false (by omega)
        clear HY HF HS HN
        go_wp2_with fail
        go_ret2
        exact HX.out
      · have HX := hide (HY.out (by simp [Pl.hexB, Pl.digB]; omega))
        have t48 : 48 ≤ zs[k] := by omega
        have t57 : zs[k] ≤ 57 := by omega
        clear HY HF HS HN
        go_wp2_with fail
        go_round
        case rel => exact ⟨k + 1, hx - 1, by omega, by omega, by omega, by omega, by go_num, rfl, HX.out⟩
        case measure => simp [intOf]; omega
      · have HX := hide (HF.out (by simp [Pl.hexB, Pl.digB]; omega))
        have t48 : 48 ≤ zs[k] := by omega
        have t57 : decide (zs[k] ≤ 57) = false := decide_eq_false (by omega)
        have t97 : decide (97 ≤ zs[k]) = false := decide_eq_false (by omega)
        have t65 : decide (65 ≤ zs[k]) = false := decide_eq_false (by omega)
        clear HY HF HS HN
        go_wp2_with fail
        go_ret2
        exact HX.out
      · have HX := hide (HY.out (by simp [Pl.hexB, Pl.digB]; omega))
        have t48 : 48 ≤ zs[k] := by omega
        have t57 : decide (zs[k] ≤ 57) = false := decide_eq_false (by omega)
        have t97 : decide (97 ≤ zs[k]) = false := decide_eq_false (by omega)
        have t65 : 65 ≤ zs[k] := by omega
        have t70 : zs[k] ≤ 70 := by omega
        clear HY HF HS HN
        go_wp2_with fail
        go_round
        case rel => exact ⟨k + 1, hx - 1, by omega, by omega, by omega, by omega, by go_num, rfl, HX.out⟩
        case measure => simp [intOf]; omega
      · have HX := hide (HF.out (by simp [Pl.hexB, Pl.digB]; omega))
        have t48 : 48 ≤ zs[k] := by omega
        have t57 : decide (zs[k] ≤ 57) = false := decide_eq_false (by omega)
        have t97 : decide (97 ≤ zs[k]) = false := decide_eq_false (by omega)
        have t65 : 65 ≤ zs[k] := by omega
        have t70 : decide (zs[k] ≤ 70) = false := decide_eq_false (by omega)
        clear HY HF HS HN
        go_wp2_with fail
        go_ret2
        exact HX.out
      · have HX := hide (HY.out (by simp [Pl.hexB, Pl.digB]; omega))
        have t48 : 48 ≤ zs[k] := by omega
        have t57 : decide (zs[k] ≤ 57) = false := decide_eq_false (by omega)
        have t97 : 97 ≤ zs[k] := by omega
        have t102 : zs[k] ≤ 102 := by omega
        clear HY HF HS HN
        go_wp2_with fail
        go_round
        case rel => exact ⟨k + 1, hx - 1, by omega, by omega, by omega, by omega, by go_num, rfl, HX.out⟩
        case measure => simp [intOf]; omega
      · have HX := hide (HF.out (by simp [Pl.hexB, Pl.digB]; omega))
        have t48 : 48 ≤ zs[k] := by omega
        have t57 : decide (zs[k] ≤ 57) = false := decide_eq_false (by omega)
        have t97 : 97 ≤ zs[k] := by omega
        have t102 : decide (zs[k] ≤ 102) = false := decide_eq_false (by omega)
        have t65 : 65 ≤ zs[k] := by omega
        have t70 : decide (zs[k] ≤ 70) = false := decide_eq_false (by omega)
        clear HY HF HS HN
        go_wp2_with fail
        go_ret2
        exact HX.out
    · have hfin : EscPost zs g cut num lit w i false h0 l0 h0 (.returned (.tuple #[.int .i64 k, .bool true])) ((w.setCell ⟨g, 6, none⟩ (.bool false)).setCell ⟨g, 7, none⟩ (.int .i64 hx)) :=
        ⟨k, true, false, hx, rfl, hk1, hk2, (hs.set6 false).set7 hx, ((Below.refl g w).setCell (p := ⟨g, 6, none⟩) (Nat.le_refl g) _).setCell (p := ⟨g, 7, none⟩) (Nat.le_refl g) _, Or.inl ⟨rfl, fun h => ⟨rfl, by omega⟩, ⟨hx0, hx4, by simp⟩, hsame⟩⟩
      have HF := hide hfin
      clear hfin
      by_cases hx1 : 0 < hx
      · have hlt : ¬ k < zs.length := fun h => hgo ⟨hx1, h⟩
        go_wp2_with fail
        go_ret2
        exact HF.out
      · have hd : decide (0 < hx) = false := decide_eq_false hx1
        go_wp2_with fail
        go_ret2
        exact HF.out

end Go.Proofs.Qxb6616667aDoor
