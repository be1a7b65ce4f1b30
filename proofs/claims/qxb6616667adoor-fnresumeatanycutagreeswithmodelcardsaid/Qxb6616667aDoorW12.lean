/-
  THE WALKS, 12: the law's own model at a number and at a literal.
-/
import Derived.Test.Qxb6616667aDoorW11
namespace Go.Proofs.Qxb6616667aDoor
open Go.RowKit
set_option linter.unusedVariables false

theorem drewN_two (w : World) (a b : Nat) : ∃ n, (w.drewN a).drewN b = w.drewN n := ⟨a + b, by simp⟩

def NAt (zs : List Int) (q : Int) (k : Nat) (p : Int) : Prop := Pl.nm q zs = (k + (Pl.nm p (zs.drop k)).1, (Pl.nm p (zs.drop k)).2)

set_option maxRecDepth 100000 in
set_option maxHeartbeats 1000000 in
theorem f7_number (B : Nat) (a : Option Addr) (c : Nat) (zs : List Int) (l : Bool) (h num : Int) (lit : ByteArray) (w : World) (hlen : zs.length ≤ 1048576) (hb : BytesAt B w a zs) :
    Calls Tryd.prog 7 #[.string (cutOf 2), .bool l, .int .i64 h, .int .i64 num, .string lit, .slice a zs.length c] w (ModPost 2 l h num lit zs w) := by
  have e : cutOf 2 = ⟨#[97, 32, 110, 117, 109, 98, 101, 114]⟩ := rfl
  rw [e]
  clear e
  have HM : Hid (model 2 l h num lit zs = if (Pl.nm num zs).1 = zs.length then ⟨zs.length, true, 2, l, h, (Pl.nm num zs).2, lit⟩ else ⟨(Pl.nm num zs).1, Pl.wholeB (Pl.nm num zs).2, 0, l, h, num, lit⟩) := rfl
  go_enter Tryd.func7, Tryd.ntmps7
  go_wp2_with fail
  go_loop [25, 26] (fun t1 t2 => ∃ (k : Nat) (p : Int), t1 = .int .i64 p ∧ t2 = .int .i64 k ∧ k ≤ zs.length ∧ NAt zs num k p) (fun _ t => zs.length - (intOf t).toNat)
  case atStart => exact ⟨0, num, rfl, rfl, by omega, by simp [NAt]⟩
  case round =>
    obtain ⟨k, p, rfl, rfl, hk, hat⟩ := hrel
    have HA := hide hat
    clear hat
    by_cases hlt : k < zs.length
    · obtain ⟨b, o, rfl, _, hc⟩ := hb k hlt
      by_cases hn : Pl.numStep p zs[k] < 0
      · have HX : Hid (model 2 l h num lit zs = ⟨k, Pl.wholeB p, 0, l, h, num, lit⟩) := by
          have h1 : Pl.nm num zs = (k, p) := by
            rw [HA.out, List.drop_eq_getElem_cons hlt, Pl.nm, if_pos hn]; simp
          show _ = _
          rw [HM.out, h1, if_neg (by simp; omega)]
        go_wp2_with (first | (go_at_call 15; refine (f15 _ _ _).mono ?_; rintro e w' ⟨rfl, rfl⟩) | (go_at_call 16; refine (f16 _ _).mono ?_; rintro e w' ⟨rfl, rfl⟩))
        exact bodyPost_ret (v := RV k (Pl.wholeB p) ⟨#[]⟩ l h num lit) (by simp [results, Tryd.results7, go_sem, RV]) rfl (ModPost.mk (ct := 0) HX.out rfl ⟨0, rfl⟩)
      · have HX : Hid (NAt zs num (k + 1) (Pl.numStep p zs[k])) := by
          unfold Hid NAt
          rw [HA.out, List.drop_eq_getElem_cons hlt, Pl.nm, if_neg hn]
          simp
          omega
        go_wp2_with (first | (go_at_call 15; refine (f15 _ _ _).mono ?_; rintro e w' ⟨rfl, rfl⟩) | (go_at_call 16; refine (f16 _ _).mono ?_; rintro e w' ⟨rfl, rfl⟩))
        go_round
        case rel => exact ⟨k + 1, _, rfl, by go_num, by omega, HX.out⟩
        case measure => simp [intOf]; omega
    · have HX : Hid (model 2 l h num lit zs = ⟨zs.length, true, 2, l, h, p, lit⟩) := by
        have h1 : Pl.nm num zs = (zs.length, p) := by
          rw [HA.out, List.drop_eq_nil_of_le (by omega), Pl.nm]; simp; omega
        show _ = _
        rw [HM.out, h1, if_pos rfl]
      go_wp2_with fail
      exact bodyPost_ret (v := RV zs.length true cN l h p lit) (by simp [results, Tryd.results7, go_sem, RV, cN]) rfl (ModPost.mk (ct := 2) HX.out rfl ⟨0, rfl⟩)

set_option maxRecDepth 100000 in
set_option maxHeartbeats 1000000 in
theorem f7_literal (B : Nat) (a : Option Addr) (c : Nat) (zs : List Int) (l : Bool) (h num : Int) (lit : ByteArray) (w : World) (hlen : zs.length ≤ 1048576) (hll : lit.size ≤ 1048576) (hb : BytesAt B w a zs) :
    Calls Tryd.prog 7 #[.string (cutOf 3), .bool l, .int .i64 h, .int .i64 num, .string lit, .slice a zs.length c] w (ModPost 3 l h num lit zs w) := by
  have e : cutOf 3 = ⟨#[97, 32, 108, 105, 116, 101, 114, 97, 108]⟩ := rfl
  rw [e]
  clear e
  have HM : Hid (model 3 l h num lit zs = if Pl.lcp (ints lit) zs = lit.size then ⟨Pl.lcp (ints lit) zs, true, 0, l, h, num, lit⟩
    else if Pl.lcp (ints lit) zs = zs.length then ⟨Pl.lcp (ints lit) zs, true, 3, l, h, num, lit.extract (Pl.lcp (ints lit) zs) lit.size⟩
    else ⟨Pl.lcp (ints lit) zs, false, 0, l, h, num, lit⟩) := rfl
  go_enter Tryd.func7, Tryd.ntmps7
  go_wp2_with fail
  go_loopw [28] (fun t wr => ∃ (k : Nat), t = .int .i64 k ∧ k ≤ zs.length ∧ k ≤ lit.size ∧ (∃ n, wr = w.drewN n) ∧ Pl.lcp (ints lit) zs = k + Pl.lcp ((ints lit).drop k) (zs.drop k)) (fun t _ => zs.length - (intOf t).toNat)
  case atStart => exact ⟨0, rfl, by omega, by omega, ⟨0, rfl⟩, by simp⟩
  case round =>
    obtain ⟨k, rfl, hk1, hk2, ⟨n, rfl⟩, hl⟩ := hrel
    have HL := hide hl
    clear hl
    by_cases h1 : k < lit.size
    · have d1 : (k : Int) < (lit.size : Int) := by omega
      have n1 : ((k : Int) == (lit.size : Int)) = false := beq_eq_false_iff_ne.2 (by omega)
      by_cases h2 : k < zs.length
      · obtain ⟨b, o, rfl, _, hc⟩ := hb k h2
        have d2 : (k : Int) < (zs.length : Int) := by omega
        have n2 : ((k : Int) == (zs.length : Int)) = false := beq_eq_false_iff_ne.2 (by omega)
        have HD := hide (lcp_drop lit zs k h1 h2)
        by_cases he : zs[k] = ((lit[k].toNat : Nat) : Int)
        · have t1 : (zs[k] == ((lit[k].toNat : Nat) : Int)) = true := by simp [he]
          have HX : Hid (Pl.lcp (ints lit) zs = (k + 1) + Pl.lcp ((ints lit).drop (k + 1)) (zs.drop (k + 1))) := by
            have := HL.out; rw [HD.out, if_pos he] at this; show _ = _; omega
          clear he HL HD
          go_wp2_with fail
          go_quiet (fail)
          go_wp2_with fail
          go_roundw
          case rel => exact ⟨k + 1, by go_num, by omega, by omega, ⟨_, rfl⟩, HX.out⟩
          case measure => simp [intOf]; omega
        · have t1 : (zs[k] == ((lit[k].toNat : Nat) : Int)) = false := by simp [he]
          have HX : Hid (model 3 l h num lit zs = ⟨k, false, 0, l, h, num, lit⟩) := by
            have e : Pl.lcp (ints lit) zs = k := by have := HL.out; rw [HD.out, if_neg he] at this; omega
            show _ = _
            rw [HM.out, e, if_neg (by omega), if_neg (by omega)]
          clear he HL HD
          go_wp2_with fail
          go_quiet (fail)
          go_wp2_with fail
          exact bodyPost_ret (v := RV k false ⟨#[]⟩ l h num lit) (by simp [results, Tryd.results7, go_sem, RV]) rfl (ModPost.mk (ct := 0) HX.out rfl ⟨n + nq, by first | rfl | simp⟩)
      · have d2 : decide ((k : Int) < (zs.length : Int)) = false := decide_eq_false (by omega)
        have n2 : ((k : Int) == (zs.length : Int)) = true := beq_iff_eq.2 (by omega)
        have HX : Hid (model 3 l h num lit zs = ⟨k, true, 3, l, h, num, lit.extract k lit.size⟩) := by
          have e : Pl.lcp (ints lit) zs = k := by have := HL.out; rw [lcp_end2 lit zs k h2] at this; omega
          show _ = _
          rw [HM.out, e, if_neg (by omega), if_pos (by omega)]
        clear HL
        go_wp2_with fail
        go_quiet (fail)
        go_wp2_with fail
        go_quiet (fail)
        go_wp2_with fail
        exact bodyPost_ret (v := RV k true cL l h num (lit.extract k lit.size)) (by simp [results, Tryd.results7, go_sem, RV, cL]) rfl (ModPost.mk (ct := 3) HX.out rfl (drewN_two _ _ _))
    · have d1 : decide ((k : Int) < (lit.size : Int)) = false := decide_eq_false (by omega)
      have n1 : ((k : Int) == (lit.size : Int)) = true := beq_iff_eq.2 (by omega)
      have HX : Hid (model 3 l h num lit zs = ⟨k, true, 0, l, h, num, lit⟩) := by
        have e : Pl.lcp (ints lit) zs = k := by have := HL.out; rw [lcp_end1 lit zs k h1] at this; omega
        show _ = _
        rw [HM.out, e, if_pos (by omega)]
      clear HL
      go_wp2_with fail
      go_quiet (fail)
      go_wp2_with fail
      exact bodyPost_ret (v := RV k true ⟨#[]⟩ l h num lit) (by simp [results, Tryd.results7, go_sem, RV]) rfl (ModPost.mk (ct := 0) HX.out rfl ⟨n + nq, by first | rfl | simp⟩)

/-- The law's own model. -/
theorem f7 (B : Nat) (a : Option Addr) (c : Nat) (zs : List Int) (t : Nat) (l : Bool) (h num : Int) (lit : ByteArray) (w : World) (hlen : zs.length ≤ 1048576) (hb : BytesAt B w a zs) (hr : Reach t l h num lit) :
    Calls Tryd.prog 7 #[.string (cutOf t), .bool l, .int .i64 h, .int .i64 num, .string lit, .slice a zs.length c] w (ModPost t l h num lit zs w) := by
  rcases (show t = 0 ∨ t = 1 ∨ t = 2 ∨ t = 3 by have := hr.kind; omega) with rfl | rfl | rfl | rfl
  · exact f7_none a c zs l h num lit w
  · exact f7_string B a c zs l h num lit w hlen hb hr.st
  · exact f7_number B a c zs l h num lit w hlen hb
  · exact f7_literal B a c zs l h num lit w hlen hr.litL hb

end Go.Proofs.Qxb6616667aDoor

