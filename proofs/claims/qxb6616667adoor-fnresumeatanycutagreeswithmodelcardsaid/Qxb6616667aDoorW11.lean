/-
  THE WALKS, 11: the law's own model.
-/
import Derived.Test.Qxb6616667aDoorW10
namespace Go.Proofs.Qxb6616667aDoor
open Go.RowKit
set_option linter.unusedVariables false

def RV (n : Nat) (ok : Bool) (ct : ByteArray) (l : Bool) (h num : Int) (lit : ByteArray) : Value := .tuple #[.int .i64 n, .bool ok, .string ct, .bool l, .int .i64 h, .int .i64 num, .string lit]
/-- WHAT the law's model ANSWERS. -/
def ModPost (t : Nat) (l : Bool) (h num : Int) (lit : ByteArray) (zs : List Int) (w : World) (e : Ending) (w' : World) : Prop :=
  e = .returned (RV (model t l h num lit zs).n (model t l h num lit zs).ok (cutOf (model t l h num lit zs).ct) (model t l h num lit zs).l (model t l h num lit zs).h (model t l h num lit zs).num (model t l h num lit zs).lit) ∧ ∃ n, w' = w.drewN n
theorem ModPost.mk {t : Nat} {l : Bool} {h num : Int} {lit : ByteArray} {zs : List Int} {w w' : World} {n : Nat} {ok : Bool} {ct : Nat} {l' : Bool} {h' num' : Int} {lit' : ByteArray} {cut' : ByteArray}
    (hm : model t l h num lit zs = ⟨n, ok, ct, l', h', num', lit'⟩) (hc : cut' = cutOf ct) (hw : ∃ n, w' = w.drewN n) : ModPost t l h num lit zs w (.returned (RV n ok cut' l' h' num' lit')) w' := by
  unfold ModPost
  rw [hm, hc]
  exact ⟨rfl, hw⟩

set_option maxRecDepth 100000 in
set_option maxHeartbeats 400000 in
theorem f7_none (a : Option Addr) (c : Nat) (zs : List Int) (l : Bool) (h num : Int) (lit : ByteArray) (w : World) :
    Calls Tryd.prog 7 #[.string (cutOf 0), .bool l, .int .i64 h, .int .i64 num, .string lit, .slice a zs.length c] w (ModPost 0 l h num lit zs w) := by
  have e : cutOf 0 = ⟨#[]⟩ := rfl
  rw [e]
  clear e
  go_enter Tryd.func7, Tryd.ntmps7
  go_wp2_with fail
  exact bodyPost_ret (v := RV 0 true ⟨#[]⟩ l h num lit) (by simp [results, Tryd.results7, go_sem, RV]) rfl (ModPost.mk (ct := 0) rfl rfl ⟨0, rfl⟩)

/-- A string, read on to byte k. -/
def SAt (zs : List Int) (l : Bool) (h : Int) (k : Nat) (l' : Bool) (h' : Int) (sl : Bool) (sh : Int) : Prop := Pl.sm l h l h zs = (Pl.sm l' h' sl sh (zs.drop k)).add k
theorem SAt.next {zs : List Int} {l : Bool} {h : Int} {k : Nat} {l' : Bool} {h' : Int} {sl : Bool} {sh : Int} (s : SAt zs l h k l' h' sl sh) {l2 : Bool} {h2 : Int} {sl2 : Bool} {sh2 : Int}
    (e : Pl.sm l' h' sl sh (zs.drop k) = (Pl.sm l2 h2 sl2 sh2 (zs.drop (k + 1))).up) : SAt zs l h (k + 1) l2 h2 sl2 sh2 := by
  unfold SAt at *
  rw [s, e, Pl.SR.add_up]
theorem SAt.done {zs : List Int} {l : Bool} {h num : Int} {lit : ByteArray} {k : Nat} {l' : Bool} {h' : Int} {sl : Bool} {sh : Int} (s : SAt zs l h k l' h' sl sh) {n : Nat} {ok : Bool} {l2 : Bool} {h2 : Int} {ct : Bool}
    (e : Pl.sm l' h' sl sh (zs.drop k) = ⟨n, ok, ct, l2, h2⟩) : model 1 l h num lit zs = ⟨k + n, ok, if ct = true then 1 else 0, l2, h2, num, lit⟩ := by
  have e2 : Pl.sm l h l h zs = ⟨k + n, ok, ct, l2, h2⟩ := by rw [s, e]; rfl
  show (⟨(Pl.sm l h l h zs).n, (Pl.sm l h l h zs).ok, if (Pl.sm l h l h zs).cut = true then 1 else 0, (Pl.sm l h l h zs).l, (Pl.sm l h l h zs).h, num, lit⟩ : R) = _
  rw [e2]
theorem pl_quote (zs : List Int) (k : Nat) (hk : k < zs.length) (h : Int) (h0 : ¬ 0 < h) (hc : zs[k] = 34) (sl : Bool) (sh : Int) : Pl.sm false h sl sh (zs.drop k) = ⟨1, true, false, false, 0⟩ := by
  rw [List.drop_eq_getElem_cons hk, Pl.sm, if_neg h0, if_pos hc]
theorem pl_back (zs : List Int) (k : Nat) (hk : k < zs.length) (h : Int) (h0 : ¬ 0 < h) (hc : zs[k] = 92) (sl : Bool) (sh : Int) : Pl.sm false h sl sh (zs.drop k) = (Pl.sm true h false 0 (zs.drop (k + 1))).up := by
  rw [List.drop_eq_getElem_cons hk, Pl.sm, if_neg h0, if_neg (by omega), if_pos hc]
theorem pl_ctl (zs : List Int) (k : Nat) (hk : k < zs.length) (h : Int) (h0 : ¬ 0 < h) (h1 : ¬ zs[k] = 34) (h2 : ¬ zs[k] = 92) (h3 : zs[k] < 32) (sl : Bool) (sh : Int) : Pl.sm false h sl sh (zs.drop k) = ⟨0, false, false, false, 0⟩ := by
  rw [List.drop_eq_getElem_cons hk, Pl.sm, if_neg h0, if_neg h1, if_neg h2, if_pos h3]
theorem pl_plain (zs : List Int) (k : Nat) (hk : k < zs.length) (h : Int) (h0 : ¬ 0 < h) (h1 : ¬ zs[k] = 34) (h2 : ¬ zs[k] = 92) (h3 : ¬ zs[k] < 32) (sl : Bool) (sh : Int) : Pl.sm false h sl sh (zs.drop k) = (Pl.sm false h false 0 (zs.drop (k + 1))).up := by
  rw [List.drop_eq_getElem_cons hk, Pl.sm, if_neg h0, if_neg h1, if_neg h2, if_neg h3]

set_option maxRecDepth 100000 in
set_option maxHeartbeats 1000000 in
theorem f7_string (B : Nat) (a : Option Addr) (c : Nat) (zs : List Int) (l : Bool) (h num : Int) (lit : ByteArray) (w : World) (hlen : zs.length ≤ 1048576) (hb : BytesAt B w a zs) (hst : Pl.okSt l h) :
    Calls Tryd.prog 7 #[.string (cutOf 1), .bool l, .int .i64 h, .int .i64 num, .string lit, .slice a zs.length c] w (ModPost 1 l h num lit zs w) := by
  have e : cutOf 1 = ⟨#[97, 32, 115, 116, 114, 105, 110, 103]⟩ := rfl
  rw [e]
  clear e
  have HST := hide hst
  clear hst
  go_enter Tryd.func7, Tryd.ntmps7
  go_wp2_with fail
  go_loop [19, 20, 21, 22, 23] (fun t1 t2 t3 t4 t5 => ∃ (k : Nat) (l' : Bool) (h' : Int) (sl : Bool) (sh : Int), t1 = .bool l' ∧ t2 = .int .i64 h' ∧ t3 = .bool sl ∧ t4 = .int .i64 sh ∧ t5 = .int .i64 k ∧ k ≤ zs.length ∧ 0 ≤ h' ∧ h' ≤ 4 ∧ SAt zs l h k l' h' sl sh) (fun _ _ _ _ t => zs.length - (intOf t).toNat)
  case atStart => exact ⟨0, l, h, l, h, rfl, rfl, rfl, rfl, rfl, by omega, HST.out.1, HST.out.2.1, by simp [SAt, Pl.SR.add]⟩
  case round =>
    obtain ⟨k, l', h', sl, sh, rfl, rfl, rfl, rfl, rfl, hk, hh0, hh4, hat⟩ := hrel
    have HA := hide hat
    clear hat
    by_cases hlt : k < zs.length
    · obtain ⟨b, o, rfl, _, hc⟩ := hb k hlt
      cases l'
      · by_cases hp : 0 < h'
        · cases hx : Pl.hexB zs[k]
          · have HX := hide (HA.out.done (num := num) (lit := lit) (hex_no zs k hlt h' hp hx sl sh))
            go_wp2_with (go_at_call 14; refine (f14 _ _).mono ?_; rintro e w' ⟨rfl, rfl⟩)
            exact bodyPost_ret (v := RV k false ⟨#[]⟩ sl sh num lit) (by simp [results, Tryd.results7, go_sem, RV]) rfl (ModPost.mk (ct := 0) HX.out rfl ⟨0, rfl⟩)
          · have HX := hide (HA.out.next (hex_yes zs k hlt h' hp hx sl sh))
            go_wp2_with (go_at_call 14; refine (f14 _ _).mono ?_; rintro e w' ⟨rfl, rfl⟩)
            go_round
            case rel => exact ⟨k + 1, false, h' - 1, sl, sh, rfl, rfl, rfl, rfl, by go_num, by omega, by omega, by omega, HX.out⟩
            case measure => simp [intOf]; omega
        · by_cases h1 : zs[k] = 34
          · have t1 : (zs[k] == 34) = true := by simp [h1]
            have HX := hide (HA.out.done (num := num) (lit := lit) (pl_quote zs k hlt h' hp h1 sl sh))
            clear h1
            go_wp2_with fail
            exact bodyPost_ret (v := RV (k + 1) true ⟨#[]⟩ false 0 num lit) (by simp [results, Tryd.results7, go_sem, RV]) rfl (ModPost.mk (ct := 0) HX.out rfl ⟨0, rfl⟩)
          · have t1 : (zs[k] == 34) = false := by simp [h1]
            by_cases h2 : zs[k] = 92
            · have t2 : (zs[k] == 92) = true := by simp [h2]
              have HX := hide (HA.out.next (pl_back zs k hlt h' hp h2 sl sh))
              clear h1 h2
              go_wp2_with fail
              go_round
              case rel => exact ⟨k + 1, true, h', false, 0, rfl, rfl, rfl, rfl, by go_num, by omega, by omega, by omega, HX.out⟩
              case measure => simp [intOf]; omega
            · have t2 : (zs[k] == 92) = false := by simp [h2]
              by_cases h3 : zs[k] < 32
              · have HX := hide (HA.out.done (num := num) (lit := lit) (pl_ctl zs k hlt h' hp h1 h2 h3 sl sh))
                clear h1 h2
                go_wp2_with fail
                exact bodyPost_ret (v := RV k false ⟨#[]⟩ false 0 num lit) (by simp [results, Tryd.results7, go_sem, RV]) rfl (ModPost.mk (ct := 0) HX.out rfl ⟨0, rfl⟩)
              · have HX := hide (HA.out.next (pl_plain zs k hlt h' hp h1 h2 h3 sl sh))
                clear h1 h2
                go_wp2_with fail
                go_round
                case rel => exact ⟨k + 1, false, h', false, 0, rfl, rfl, rfl, rfl, by go_num, by omega, by omega, by omega, HX.out⟩
                case measure => simp [intOf]; omega
      · by_cases h1 : zs[k] = 117
        · have t1 : (zs[k] == 117) = true := by simp [h1]
          have HX := hide (HA.out.next (let_u zs k hlt h' h1 sl sh))
          clear h1
          go_wp2_with fail
          go_round
          case rel => exact ⟨k + 1, false, 4, sl, sh, rfl, rfl, rfl, rfl, by go_num, by omega, by omega, by omega, HX.out⟩
          case measure => simp [intOf]; omega
        · have t1 : (zs[k] == 117) = false := by simp [h1]
          cases he : Pl.escB zs[k]
          · have HX := hide (HA.out.done (num := num) (lit := lit) (let_no zs k hlt h' h1 he sl sh))
            clear h1
            go_wp2_with (go_at_call 13; refine (f13 _ _).mono ?_; rintro e w' ⟨rfl, rfl⟩)
            exact bodyPost_ret (v := RV k false ⟨#[]⟩ sl sh num lit) (by simp [results, Tryd.results7, go_sem, RV]) rfl (ModPost.mk (ct := 0) HX.out rfl ⟨0, rfl⟩)
          · have HX := hide (HA.out.next (let_esc zs k hlt h' he sl sh))
            clear h1
            go_wp2_with (go_at_call 13; refine (f13 _ _).mono ?_; rintro e w' ⟨rfl, rfl⟩)
            go_round
            case rel => exact ⟨k + 1, false, h', sl, sh, rfl, rfl, rfl, rfl, by go_num, by omega, by omega, by omega, HX.out⟩
            case measure => simp [intOf]; omega
    · have HX := hide (HA.out.done (num := num) (lit := lit) (n := 0) (ok := true) (ct := true) (l2 := l') (h2 := h') (by rw [List.drop_eq_nil_of_le (by omega), Pl.sm_nil]))
      have hkl : k = zs.length := by omega
      have HK := hide hkl
      clear hkl
      go_wp2_with fail
      exact bodyPost_ret (v := RV zs.length true cS l' h' num lit) (by simp [results, Tryd.results7, go_sem, RV, cS]) rfl (ModPost.mk (ct := 1) (by rw [HX.out, HK.out]; rfl) rfl ⟨0, rfl⟩)

end Go.Proofs.Qxb6616667aDoor
