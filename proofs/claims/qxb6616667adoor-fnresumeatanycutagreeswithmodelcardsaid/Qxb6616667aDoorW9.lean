/-
  THE WALKS, 9: literalFrom.
-/
import Derived.Test.Qxb6616667aDoorW7
import Derived.RegionTactic
import Derived.ChangeAlike
namespace Go.Proofs.Qxb6616667aDoor
open Go.RowKit
set_option linter.unusedVariables false

def cL : ByteArray := ⟨#[97, 32, 108, 105, 116, 101, 114, 97, 108]⟩
def cN : ByteArray := ⟨#[97, 32, 110, 117, 109, 98, 101, 114]⟩

/-- A string's bytes, as numbers. -/
def ints (s : ByteArray) : List Int := s.data.toList.map fun b => (b.toNat : Int)
theorem ints_len (s : ByteArray) : (ints s).length = s.size := by simp [ints]

theorem ints_get (s : ByteArray) (k : Nat) (h : k < s.size) (h' : k < (ints s).length) : (ints s)[k] = ((s[k].toNat : Nat) : Int) := by simp [ints]; rfl
theorem lcp_drop (s : ByteArray) (zs : List Int) (k : Nat) (h1 : k < s.size) (h2 : k < zs.length) :
    Pl.lcp ((ints s).drop k) (zs.drop k) = if zs[k] = ((s[k].toNat : Nat) : Int) then Pl.lcp ((ints s).drop (k + 1)) (zs.drop (k + 1)) + 1 else 0 := by
  have h1' : k < (ints s).length := by rw [ints_len]; exact h1
  rw [List.drop_eq_getElem_cons h1', List.drop_eq_getElem_cons h2, Pl.lcp, ints_get s k h1 h1']
theorem lcp_end1 (s : ByteArray) (zs : List Int) (k : Nat) (h1 : ¬ k < s.size) : Pl.lcp ((ints s).drop k) (zs.drop k) = 0 := by
  rw [List.drop_eq_nil_of_le (by rw [ints_len]; omega), Pl.lcp]; simp
theorem lcp_end2 (s : ByteArray) (zs : List Int) (k : Nat) (h2 : ¬ k < zs.length) : Pl.lcp ((ints s).drop k) (zs.drop k) = 0 := by
  have e : zs.drop k = [] := List.drop_eq_nil_of_le (by omega)
  rw [e]
  cases (ints s).drop k <;> rfl
theorem Scan.drewN {w : World} {g : Nat} {cut : ByteArray} {l : Bool} {h num : Int} {lit : ByteArray} (s : Scan w g cut l h num lit) (n : Nat) : Scan (w.drewN n) g cut l h num lit :=
  ⟨s.c5, s.c6, s.c7, s.c8, s.c9, s.f5, s.f6, s.f7, s.f8, s.f9⟩
theorem below_drewN' (B : Nat) (w : World) (n : Nat) : Below B w (w.drewN n) := ⟨rfl, rfl, rfl, Nat.le_refl _, fun _ _ => rfl⟩

/-- WHAT literalFrom LEAVES. -/
def LitPost (zs : List Int) (g : Nat) (cut : ByteArray) (l : Bool) (h num : Int) (lit lit0 : ByteArray) (w : World) (e : Ending) (w' : World) : Prop :=
  ∃ (m : Nat) (ok : Bool) (cut' lit' : ByteArray), e = .returned (.tuple #[.int .i64 m, .bool ok]) ∧ m = Pl.lcp (ints lit) zs ∧ Scan w' g cut' l h num lit' ∧ Below g w w' ∧
    ((m = lit.size ∧ ok = true ∧ cut' = cut ∧ lit' = lit0) ∨ (m ≠ lit.size ∧ m = zs.length ∧ ok = true ∧ cut' = cL ∧ lit' = lit.extract m lit.size) ∨ (m ≠ lit.size ∧ m ≠ zs.length ∧ ok = false ∧ cut' = cut ∧ lit' = lit0))

set_option maxHeartbeats 400000 in
theorem f22 (B g : Nat) (a : Option Addr) (c : Nat) (zs : List Int) (cut : ByteArray) (l : Bool) (h num : Int) (lit lit0 : ByteArray) (w : World) (hlen : zs.length ≤ 1048576) (hll : lit.size ≤ 1048576)
    (hb : BytesAt B w a zs) (hs : Scan w g cut l h num lit0) :
    Calls Tryd.prog 22 #[.pointer (some ⟨g, 0, none⟩), .slice a zs.length c, .int .i64 0, .string lit] w (LitPost zs g cut l h num lit lit0 w) := by
  have g5 := hs.c5; have g9 := hs.c9; have q5 := hs.f5; have q9 := hs.f9
  go_enter Tryd.func22, Tryd.ntmps22
  go_wp2_with fail
  go_loopw [2, 10, 13] (fun t u v wr => ∃ (k : Nat), t = .int .i64 k ∧ v = .int .i64 k ∧ k ≤ zs.length ∧ k ≤ lit.size ∧ (∃ n, wr = w.drewN n) ∧ Pl.lcp (ints lit) zs = k + Pl.lcp ((ints lit).drop k) (zs.drop k)) (fun t _ _ _ => zs.length - (intOf t).toNat)
  case atStart => exact ⟨0, rfl, rfl, by omega, by omega, ⟨0, rfl⟩, by simp⟩
  case round =>
    obtain ⟨k, rfl, rfl, hk1, hk2, ⟨n, rfl⟩, hl⟩ := hrel
    have HL := hide hl
    clear hl
    by_cases h1 : k < lit.size
    · by_cases h2 : k < zs.length
      · obtain ⟨b, o, rfl, _, hc⟩ := hb k h2
        have hne : ((k : Int) == (zs.length : Int)) = false := beq_eq_false_iff_ne.2 (by omega)
        have HD := hide (lcp_drop lit zs k h1 h2)
        by_cases he : zs[k] = ((lit[k].toNat : Nat) : Int)
        · have t1 : (zs[k] != ((lit[k].toNat : Nat) : Int)) = false := by simp [he]
          have HX : Hid (Pl.lcp (ints lit) zs = (k + 1) + Pl.lcp ((ints lit).drop (k + 1)) (zs.drop (k + 1))) := by
            have := HL.out; rw [HD.out, if_pos he] at this; show _ = _; omega
          clear he HL HD
          go_wp2_with fail
          go_quiet (fail)
          go_wp2_with fail
          go_roundw
          case rel => exact ⟨k + 1, by go_num, by go_num, by omega, by omega, ⟨_, rfl⟩, HX.out⟩
          case measure => simp [intOf]; omega
        · have t1 : (zs[k] != ((lit[k].toNat : Nat) : Int)) = true := by simp [he]
          have HX : Hid (k = Pl.lcp (ints lit) zs) := by
            have := HL.out; rw [HD.out, if_neg he] at this; show _ = _; omega
          clear he HL HD
          go_wp2_with fail
          go_quiet (fail)
          go_wp2_with fail
          go_ret2
          exact ⟨k, false, cut, lit0, rfl, HX.out, (hs.drewN _).drewN _, (below_drewN' g w n).trans (below_drewN' _ _ _), Or.inr (Or.inr ⟨by omega, by omega, rfl, rfl, rfl⟩)⟩
      · have hne : ((k : Int) == (zs.length : Int)) = true := beq_iff_eq.2 (by omega)
        have HX : Hid (k = Pl.lcp (ints lit) zs) := by
          have := HL.out; rw [lcp_end2 lit zs k h2] at this; show _ = _; omega
        clear HL
        go_wp2_with fail
        go_region
        all_goals go_wp2_with fail
        all_goals go_ret2
        all_goals exact ⟨k, true, cL, lit.extract k lit.size, rfl, HX.out, ((hs.drewN _).set5 cL).set9 _, ((below_drewN' g w _).setCell (p := ⟨g, 5, none⟩) (Nat.le_refl g) _).setCell (p := ⟨g, 9, none⟩) (Nat.le_refl g) _, Or.inr (Or.inl ⟨by omega, by omega, rfl, rfl, rfl⟩)⟩
    · have HX : Hid (k = Pl.lcp (ints lit) zs) := by
        have := HL.out; rw [lcp_end1 lit zs k h1] at this; show _ = _; omega
      clear HL
      go_wp2_with fail
      go_ret2
      exact ⟨k, true, cut, lit0, rfl, HX.out, hs.drewN _, below_drewN' _ _ _, Or.inl ⟨by omega, rfl, rfl, rfl⟩⟩

end Go.Proofs.Qxb6616667aDoor
