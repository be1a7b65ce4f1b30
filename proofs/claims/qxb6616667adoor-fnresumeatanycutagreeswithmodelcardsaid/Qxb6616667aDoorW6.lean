/-
  THE WALKS, 6: escape, its letter to come.
-/
import Derived.Test.Qxb6616667aDoorW5
namespace Go.Proofs.Qxb6616667aDoor
open Go.RowKit
set_option linter.unusedVariables false

set_option maxHeartbeats 400000 in
theorem f25_end (B g : Nat) (a : Option Addr) (c : Nat) (zs : List Int) (cut : ByteArray) (l0 : Bool) (num : Int) (lit : ByteArray) (w : World)
    (hs : Scan w g cut l0 0 num lit) :
    Calls Tryd.prog 25 #[.pointer (some ⟨g, 0, none⟩), .slice a zs.length c, .int .i64 zs.length, .bool true] w (EscPost zs g cut num lit w zs.length true 0 l0 0) := by
  have g6 := hs.c6; have g7 := hs.c7; have q6 := hs.f6; have q7 := hs.f7
  have hfin : EscPost zs g cut num lit w zs.length true 0 l0 0 (.returned (.tuple #[.int .i64 zs.length, .bool true])) (w.setCell ⟨g, 6, none⟩ (.bool true)) :=
    ⟨zs.length, true, true, 0, rfl, Nat.le_refl _, Nat.le_refl _, hs.set6 true, (Below.refl g w).setCell (p := ⟨g, 6, none⟩) (Nat.le_refl g) _, Or.inl ⟨rfl, fun h => absurd h (by omega), ⟨by omega, by omega, fun _ => rfl⟩, Same.refl _ _ _ _⟩⟩
  have HF := hide hfin
  clear hfin
  go_enter Tryd.func25, Tryd.ntmps25
  go_wp2_with fail
  go_ret2
  exact HF.out

set_option maxHeartbeats 400000 in
theorem f25_esc (B g : Nat) (a : Option Addr) (c : Nat) (zs : List Int) (i : Nat) (cut : ByteArray) (l0 : Bool) (num : Int) (lit : ByteArray) (w : World) (hlen : zs.length ≤ 1048576) (hi : i < zs.length)
    (hb : BytesAt B w a zs) (hs : Scan w g cut l0 0 num lit) (he : Pl.escB zs[i] = true) :
    Calls Tryd.prog 25 #[.pointer (some ⟨g, 0, none⟩), .slice a zs.length c, .int .i64 i, .bool true] w (EscPost zs g cut num lit w i true 0 l0 0) := by
  have g6 := hs.c6; have g7 := hs.c7; have q6 := hs.f6; have q7 := hs.f7
  have hfin : EscPost zs g cut num lit w i true 0 l0 0 (.returned (.tuple #[.int .i64 ((i + 1 : Nat) : Int), .bool true])) ((w.setCell ⟨g, 6, none⟩ (.bool false)).setCell ⟨g, 7, none⟩ (.int .i64 0)) :=
    ⟨i + 1, true, false, 0, rfl, by omega, by omega, (hs.set6 false).set7 0, ((Below.refl g w).setCell (p := ⟨g, 6, none⟩) (Nat.le_refl g) _).setCell (p := ⟨g, 7, none⟩) (Nat.le_refl g) _, Or.inl ⟨rfl, fun _ => ⟨rfl, rfl⟩, ⟨by omega, by omega, by simp⟩, (Same.refl zs true 0 i).step (Nat.le_refl _) (let_esc zs i hi 0 he)⟩⟩
  have HF := hide hfin
  clear hfin
  have hne : ((i : Int) == (zs.length : Int)) = false := beq_eq_false_iff_ne.2 (by omega)
  obtain ⟨b, o, rfl, _, hc⟩ := hb i hi
  have hcase : zs[i] = 34 ∨ zs[i] = 92 ∨ zs[i] = 47 ∨ zs[i] = 98 ∨ zs[i] = 102 ∨ zs[i] = 110 ∨ zs[i] = 114 ∨ zs[i] = 116 := by
    simp [Pl.escB] at he
    omega
  clear he
  rcases hcase with h | h | h | h | h | h | h | h
  all_goals
    go_enter Tryd.func25, Tryd.ntmps25
    go_wp2_with fail
    go_loop [2, 10] (fun t u => t = .int .i64 ((i + 1 : Nat) : Int) ∧ u = .int .i64 0) (fun _ _ => 0)
    case atStart => exact ⟨by go_num, rfl⟩
    case round =>
      obtain ⟨rfl, rfl⟩ := hrel
      go_wp2_with fail
      go_ret2
      exact HF.out

set_option maxHeartbeats 400000 in
theorem f25_no (B g : Nat) (a : Option Addr) (c : Nat) (zs : List Int) (i : Nat) (cut : ByteArray) (l0 : Bool) (num : Int) (lit : ByteArray) (w : World) (hlen : zs.length ≤ 1048576) (hi : i < zs.length)
    (hb : BytesAt B w a zs) (hs : Scan w g cut l0 0 num lit) (hu : ¬ zs[i] = 117) (he : Pl.escB zs[i] = false) :
    Calls Tryd.prog 25 #[.pointer (some ⟨g, 0, none⟩), .slice a zs.length c, .int .i64 i, .bool true] w (EscPost zs g cut num lit w i true 0 l0 0) := by
  have g6 := hs.c6; have g7 := hs.c7; have q6 := hs.f6; have q7 := hs.f7
  have hfin : EscPost zs g cut num lit w i true 0 l0 0 (.returned (.tuple #[.int .i64 i, .bool false])) w :=
    ⟨i, false, l0, 0, rfl, by omega, by omega, hs, Below.refl g w, Or.inr ⟨rfl, rfl, rfl, fun sl sh => by rw [let_no zs i hi 0 hu he sl sh]; simp⟩⟩
  have HF := hide hfin
  clear hfin
  have hne : ((i : Int) == (zs.length : Int)) = false := beq_eq_false_iff_ne.2 (by omega)
  obtain ⟨b, o, rfl, _, hc⟩ := hb i hi
  simp only [Pl.escB, Bool.or_eq_false_iff] at he
  obtain ⟨⟨⟨⟨⟨⟨⟨n1, n2⟩, n3⟩, n4⟩, n5⟩, n6⟩, n7⟩, n8⟩ := he
  have n9 : (zs[i] == 117) = false := beq_eq_false_iff_ne.2 hu
  go_enter Tryd.func25, Tryd.ntmps25
  go_wp2_with fail
  go_ret2
  exact HF.out

set_option maxHeartbeats 400000 in
theorem f25_u (B g : Nat) (a : Option Addr) (c : Nat) (zs : List Int) (i : Nat) (cut : ByteArray) (l0 : Bool) (num : Int) (lit : ByteArray) (w : World) (hlen : zs.length ≤ 1048576) (hi : i < zs.length)
    (hb : BytesAt B w a zs) (hs : Scan w g cut l0 0 num lit) (hu : zs[i] = 117) :
    Calls Tryd.prog 25 #[.pointer (some ⟨g, 0, none⟩), .slice a zs.length c, .int .i64 i, .bool true] w (EscPost zs g cut num lit w i true 0 l0 0) := by
  have g6 := hs.c6; have g7 := hs.c7; have q6 := hs.f6; have q7 := hs.f7
  have hne : ((i : Int) == (zs.length : Int)) = false := beq_eq_false_iff_ne.2 (by omega)
  obtain ⟨b, o, rfl, _, hc⟩ := hb i hi
  have HU := hide ((Same.refl zs true 0 i).step (Nat.le_refl _) (let_u zs i hi 0 hu))
  go_enter Tryd.func25, Tryd.ntmps25
  go_wp2_with fail
  clear hu hc
  go_loop [2, 10] (fun t u => ∃ (k : Nat) (hx : Int), i ≤ k ∧ k ≤ zs.length ∧ 0 ≤ hx ∧ hx ≤ 4 ∧ t = .int .i64 k ∧ u = .int .i64 hx ∧ Same zs true 0 i false hx k) (fun t _ => zs.length - (intOf t).toNat)
  case atStart => exact ⟨i + 1, 4, by omega, by omega, by omega, by omega, by go_num, rfl, HU.out⟩
  case round =>
    obtain ⟨k, hx, hk1, hk2, hx0, hx4, rfl, rfl, hsame⟩ := hrel
    by_cases hgo : 0 < hx ∧ k < zs.length
    · obtain ⟨hx1, hlt⟩ := hgo
      obtain ⟨b', o', e', _, hc⟩ := hb k hlt
      cases e'
      have hcase : zs[k] < 48 ∨ (48 ≤ zs[k] ∧ zs[k] ≤ 57) ∨ (57 < zs[k] ∧ zs[k] < 65) ∨ (65 ≤ zs[k] ∧ zs[k] ≤ 70) ∨ (70 < zs[k] ∧ zs[k] < 97) ∨ (97 ≤ zs[k] ∧ zs[k] ≤ 102) ∨ 102 < zs[k] := by omega
      have hN := fun h => hide (hex_no zs k hlt hx hx1 h)
      have hY := fun h => hsame.step hk1 (hex_yes zs k hlt hx hx1 h)
      have HN := hide hN
      have HY := hide hY
      clear hN hY
      have hsN : ∀ sl sh, Pl.hexB zs[k] = false → Pl.sm true 0 sl sh (zs.drop i) = ⟨k - i, false, false, sl, sh⟩ := fun sl sh h => by rw [hsame sl sh, (HN.out h).out sl sh]; simp [Pl.SR.add]
      have HS := hide hsN
      clear hsN
      have hfin : Pl.hexB zs[k] = false → EscPost zs g cut num lit w i true 0 l0 0 (.returned (.tuple #[.int .i64 k, .bool false])) w := fun h => ⟨k, false, l0, 0, rfl, hk1, hk2, hs, Below.refl _ _, Or.inr ⟨rfl, rfl, rfl, fun sl sh => HS.out sl sh h⟩⟩
      have HF := hide hfin
      clear hfin
      rcases hcase with h | ⟨h, h'⟩ | ⟨h, h'⟩ | ⟨h, h'⟩ | ⟨h, h'⟩ | ⟨h, h'⟩ | h
      · have HX := hide (HF.out (by simp [Pl.hexB, Pl.digB]; omega))
        have t48 : decide (48 ≤ zs[k]) = false := decide_eq_false (by omega)
        have t97 : decide (97 ≤ zs[k]) = false := decide_eq_false (by omega)
        have t65 : decide (65 ≤ zs[k]) = false := decide_eq_false (by omega)
        clear HY HF HS HN
        go_wp2_with fail
        go_ret2
        exact HX.out
      · have HX := hide (HY.out (by simp [Pl.hexB, Pl.digB]; omega))
        have t48 : 48 ≤ zs[k] := by omega
        have t57 : zs[k] ≤ 57 := by omega
        clear HY HF HS HN
        go_wp2_with fail
        go_round
        case rel => exact ⟨k + 1, hx - 1, by omega, by omega, by omega, by omega, by go_num, rfl, HX.out⟩
        case measure => simp [intOf]; omega
      · have HX := hide (HF.out (by simp [Pl.hexB, Pl.digB]; omega))
        have t48 : 48 ≤ zs[k] := by omega
        have t57 : decide (zs[k] ≤ 57) = false := decide_eq_false (by omega)
        have t97 : decide (97 ≤ zs[k]) = false := decide_eq_false (by omega)
        have t65 : decide (65 ≤ zs[k]) = false := decide_eq_false (by omega)
        clear HY HF HS HN
        go_wp2_with fail
        go_ret2
        exact HX.out
      · have HX := hide (HY.out (by simp [Pl.hexB, Pl.digB]; omega))
        have t48 : 48 ≤ zs[k] := by omega
        have t57 : decide (zs[k] ≤ 57) = false := decide_eq_false (by omega)
        have t97 : decide (97 ≤ zs[k]) = false := decide_eq_false (by omega)
        have t65 : 65 ≤ zs[k] := by omega
        have t70 : zs[k] ≤ 70 := by omega
        clear HY HF HS HN
        go_wp2_with fail
        go_round
        case rel => exact ⟨k + 1, hx - 1, by omega, by omega, by omega, by omega, by go_num, rfl, HX.out⟩
        case measure => simp [intOf]; omega
      · have HX := hide (HF.out (by simp [Pl.hexB, Pl.digB]; omega))
        have t48 : 48 ≤ zs[k] := by omega
        have t57 : decide (zs[k] ≤ 57) = false := decide_eq_false (by omega)
        have t97 : decide (97 ≤ zs[k]) = false := decide_eq_false (by omega)
        have t65 : 65 ≤ zs[k] := by omega
        have t70 : decide (zs[k] ≤ 70) = false := decide_eq_false (by omega)
        clear HY HF HS HN
        go_wp2_with fail
        go_ret2
        exact HX.out
      · have HX := hide (HY.out (by simp [Pl.hexB, Pl.digB]; omega))
        have t48 : 48 ≤ zs[k] := by omega
        have t57 : decide (zs[k] ≤ 57) = false := decide_eq_false (by omega)
        have t97 : 97 ≤ zs[k] := by omega
        have t102 : zs[k] ≤ 102 := by omega
        clear HY HF HS HN
        go_wp2_with fail
        go_round
        case rel => exact ⟨k + 1, hx - 1, by omega, by omega, by omega, by omega, by go_num, rfl, HX.out⟩
        case measure => simp [intOf]; omega
      · have HX := hide (HF.out (by simp [Pl.hexB, Pl.digB]; omega))
        have t48 : 48 ≤ zs[k] := by omega
        have t57 : decide (zs[k] ≤ 57) = false := decide_eq_false (by omega)
        have t97 : 97 ≤ zs[k] := by omega
        have t102 : decide (zs[k] ≤ 102) = false := decide_eq_false (by omega)
        have t65 : 65 ≤ zs[k] := by omega
        have t70 : decide (zs[k] ≤ 70) = false := decide_eq_false (by omega)
        clear HY HF HS HN
        go_wp2_with fail
        go_ret2
        exact HX.out
    · have hfin : EscPost zs g cut num lit w i true 0 l0 0 (.returned (.tuple #[.int .i64 k, .bool true])) ((w.setCell ⟨g, 6, none⟩ (.bool false)).setCell ⟨g, 7, none⟩ (.int .i64 hx)) :=
        ⟨k, true, false, hx, rfl, hk1, hk2, (hs.set6 false).set7 hx, ((Below.refl g w).setCell (p := ⟨g, 6, none⟩) (Nat.le_refl g) _).setCell (p := ⟨g, 7, none⟩) (Nat.le_refl g) _, Or.inl ⟨rfl, fun h => ⟨rfl, by omega⟩, ⟨hx0, hx4, by simp⟩, hsame⟩⟩
      have HF := hide hfin
      clear hfin
      by_cases hx1 : 0 < hx
      · have hlt : ¬ k < zs.length := fun h => hgo ⟨hx1, h⟩
        go_wp2_with fail
        go_ret2
        exact HF.out
      · have hd : decide (0 < hx) = false := decide_eq_false hx1
        go_wp2_with fail
        go_ret2
        exact HF.out


/-- escape, its letter to come. -/
theorem f25_letter (B g : Nat) (a : Option Addr) (c : Nat) (zs : List Int) (i : Nat) (cut : ByteArray) (l0 : Bool) (num : Int) (lit : ByteArray) (w : World) (hlen : zs.length ≤ 1048576) (hi : i ≤ zs.length)
    (hb : BytesAt B w a zs) (hs : Scan w g cut l0 0 num lit) :
    Calls Tryd.prog 25 #[.pointer (some ⟨g, 0, none⟩), .slice a zs.length c, .int .i64 i, .bool true] w (EscPost zs g cut num lit w i true 0 l0 0) := by
  by_cases hlt : i < zs.length
  · by_cases hu : zs[i] = 117
    · exact f25_u B g a c zs i cut l0 num lit w hlen hlt hb hs hu
    · cases he : Pl.escB zs[i]
      · exact f25_no B g a c zs i cut l0 num lit w hlen hlt hb hs hu he
      · exact f25_esc B g a c zs i cut l0 num lit w hlen hlt hb hs he
  · obtain rfl : i = zs.length := by omega
    exact f25_end B g a c zs cut l0 num lit w hs

end Go.Proofs.Qxb6616667aDoor
