/-
  THE WALKS, 8: numberEnd.
-/
import Derived.Test.Qxb6616667aDoorW7
namespace Go.Proofs.Qxb6616667aDoor
open Go.RowKit
set_option linter.unusedVariables false

theorem digEnd_ge (zs : List Int) (k : Nat) : k ≤ digEnd zs k := by unfold digEnd; omega
theorem digEnd_le (zs : List Int) (k : Nat) (hk : k ≤ zs.length) : digEnd zs k ≤ zs.length := by
  have := dig_le (zs.drop k)
  simp at this
  unfold digEnd; omega
theorem dig_stop : ∀ (l : List Int) (h : dig l < l.length), Pl.digB l[dig l] = false
  | [], h => by simp at h
  | c :: cs, h => by
    cases hs : Pl.digB c
    · have hr : dig (c :: cs) = 0 := by rw [dig, if_neg (by simp [hs])]
      simp only [hr, List.getElem_cons_zero]
      exact hs
    · have hr : dig (c :: cs) = dig cs + 1 := by rw [dig, if_pos hs]
      have := dig_stop cs (by rw [hr] at h; simpa using h)
      simp only [hr, List.getElem_cons_succ]
      exact this
theorem digEnd_stop (zs : List Int) (k : Nat) (h : digEnd zs k < zs.length) : Pl.digB (zs[digEnd zs k]) = false := by
  have h1 : dig (zs.drop k) < (zs.drop k).length := by unfold digEnd at h; simp; omega
  have := dig_stop (zs.drop k) h1
  rw [List.getElem_drop] at this
  exact this

/-- The number read to part q before zs, read on to byte k and part p. -/
def NInv (zs : List Int) (q : Int) (k : Nat) (p : Int) : Prop :=
  k ≤ zs.length ∧ (Pl.nm q zs).1 = k + (Pl.nm p (zs.drop k)).1 ∧ Pl.wholeB (Pl.nm q zs).2 = Pl.wholeB (Pl.nm p (zs.drop k)).2 ∧ ((Pl.nm q zs).1 = zs.length → (Pl.nm q zs).2 = (Pl.nm p (zs.drop k)).2)
/-- The number ends at byte k, at part p. -/
def NFin (zs : List Int) (q : Int) (k : Nat) (p : Int) : Prop :=
  (Pl.nm q zs).1 = k ∧ Pl.wholeB (Pl.nm q zs).2 = Pl.wholeB p ∧ (k = zs.length → (Pl.nm q zs).2 = p)

theorem NInv.start (zs : List Int) (q : Int) : NInv zs q 0 q := ⟨by omega, by simp, by simp, by simp⟩
theorem NInv.fin {zs : List Int} {q p : Int} {k : Nat} (h : NInv zs q k p) (hz : k < zs.length → ∀ hk : k < zs.length, Pl.numStep p zs[k] < 0) : NFin zs q k p := by
  obtain ⟨h1, h2, h3, h4⟩ := h
  have hn : Pl.nm p (zs.drop k) = (0, p) := by
    by_cases hk : k < zs.length
    · rw [List.drop_eq_getElem_cons hk, Pl.nm, if_pos (hz hk hk)]
    · rw [List.drop_eq_nil_of_le (by omega), Pl.nm]
  rw [hn] at h2 h3 h4
  exact ⟨by simpa using h2, h3, fun e => h4 (by rw [h2, e]; rfl)⟩
theorem NInv.atEnd {zs : List Int} {q p : Int} {k : Nat} (h : NInv zs q k p) (hk : ¬ k < zs.length) : NFin zs q k p := h.fin (fun h' => absurd h' hk)
theorem NInv.stop {zs : List Int} {q p : Int} {k : Nat} (h : NInv zs q k p) (hk : k < zs.length) (hs : Pl.numStep p zs[k] < 0) : NFin zs q k p := h.fin (fun _ _ => hs)
theorem NInv.step {zs : List Int} {q p p' : Int} {k : Nat} (h : NInv zs q k p) (hk : k < zs.length) (hs : Pl.numStep p zs[k] = p') (h0 : 0 ≤ p') : NInv zs q (k + 1) p' := by
  obtain ⟨h1, h2, h3, h4⟩ := h
  have hn : Pl.nm p (zs.drop k) = ((Pl.nm p' (zs.drop (k + 1))).1 + 1, (Pl.nm p' (zs.drop (k + 1))).2) := by
    rw [List.drop_eq_getElem_cons hk, Pl.nm, hs, if_neg (by omega)]
  rw [hn] at h2 h3 h4
  exact ⟨by omega, by simp at h2; omega, h3, h4⟩
theorem NInv.swap {zs : List Int} {q p p' : Int} {k : Nat} (h : NInv zs q k p) (hk : k < zs.length) (hs : Pl.numStep p zs[k] = Pl.numStep p' zs[k]) (h0 : 0 ≤ Pl.numStep p' zs[k]) : NInv zs q k p' := by
  obtain ⟨h1, h2, h3, h4⟩ := h
  have hn : Pl.nm p (zs.drop k) = Pl.nm p' (zs.drop k) := by
    rw [List.drop_eq_getElem_cons hk, Pl.nm, Pl.nm, hs, if_neg (by omega), if_neg (by omega)]
  rw [hn] at h2 h3 h4
  exact ⟨h1, h2, h3, h4⟩
theorem NInv.sign {zs : List Int} {q : Int} {k : Nat} (h : NInv zs q k 6) (hk : k < zs.length) (h1 : ¬ zs[k] = 43) (h2 : ¬ zs[k] = 45) : NInv zs q k 7 := by
  cases hd : Pl.digB zs[k]
  · have e6 : Pl.numStep 6 zs[k] = -1 := by simp [Pl.numStep, h1, h2, hd]
    have e7 : Pl.numStep 7 zs[k] = -1 := by simp [Pl.numStep, hd]
    obtain ⟨g1, g2, g3, g4⟩ := h
    have n6 : Pl.nm 6 (zs.drop k) = (0, 6) := by rw [List.drop_eq_getElem_cons hk, Pl.nm, e6, if_pos (by omega)]
    have n7 : Pl.nm 7 (zs.drop k) = (0, 7) := by rw [List.drop_eq_getElem_cons hk, Pl.nm, e7, if_pos (by omega)]
    rw [n6] at g2 g3
    refine ⟨g1, by rw [n7]; exact g2, by rw [n7, g3]; rfl, fun e => ?_⟩
    simp at g2
    omega
  · exact h.swap hk (by simp [Pl.numStep, h1, h2, hd]) (by simp [Pl.numStep, hd])
theorem NInv.digits {zs : List Int} {q p : Int} (hp : ∀ c, Pl.digB c = true → Pl.numStep p c = p) (h0 : 0 ≤ p) : ∀ (n k : Nat), zs.length - k = n → NInv zs q k p → NInv zs q (digEnd zs k) p
  | 0, k, hn, h => by rw [digEnd_end zs k (by omega)]; exact h
  | n + 1, k, hn, h => by
    have hk : k < zs.length := by omega
    cases hd : Pl.digB zs[k]
    · rw [digEnd_no zs k hk hd]; exact h
    · rw [digEnd_yes zs k hk hd]
      exact NInv.digits hp h0 n (k + 1) (by omega) (h.step hk (hp _ hd) h0)
theorem step3 (c : Int) (h : Pl.digB c = true) : Pl.numStep 3 c = 3 := by simp [Pl.numStep, h]
theorem step5 (c : Int) (h : Pl.digB c = true) : Pl.numStep 5 c = 5 := by simp [Pl.numStep, h]
theorem step8 (c : Int) (h : Pl.digB c = true) : Pl.numStep 8 c = 8 := by simp [Pl.numStep, h]

/-- WHAT numberEnd LEAVES. -/
def NPost (zs : List Int) (q : Int) (w : World) (e : Ending) (w' : World) : Prop :=
  ∃ (k : Nat) (p : Int), e = .returned (.tuple #[.int .i64 k, .int .i64 p]) ∧ NFin zs q k p ∧ w' = w

set_option maxRecDepth 100000 in
set_option maxHeartbeats 1000000 in
theorem f26_at (i B : Nat) (a : Option Addr) (c : Nat) (zs : List Int) (q : Int) (w : World) (hlen : zs.length ≤ 1048576) (hi : i ≤ zs.length) (hb : BytesAt B w a zs) (hinv0 : NInv zs q i q) (hq1 : 1 ≤ q) (hq8 : q ≤ 8) :
    Calls Tryd.prog 26 #[.slice a zs.length c, .int .i64 i, .int .i64 q] w (NPost zs q w) := by
  have hq0 : (q == 0) = false := beq_eq_false_iff_ne.2 (by omega)
  go_enter Tryd.func26, Tryd.ntmps26
  go_upto_if 24 with fail
  -- the integer's first digit
  go_cut [1, 2] (fun t u wc => wc = w ∧ ∃ (k : Nat) (p : Int), t = .int .i64 k ∧ u = .int .i64 p ∧ k ≤ zs.length ∧ NInv zs q k p ∧ 2 ≤ p ∧ p ≤ 8)
  case first =>
    as_aux_lemma =>
      by_cases hq : q = 1
      · subst hq
        by_cases hl : i < zs.length
        · obtain ⟨b, o, rfl, _, hc⟩ := hb i hl
          have hne : ((i : Int) == (zs.length : Int)) = false := beq_eq_false_iff_ne.2 (by omega)
          by_cases h1 : zs[i] = 48
          · have t1 : (zs[i] == 48) = true := by simp [h1]
            have HX := hide (hinv0.step (p' := 2) hl (by simp [Pl.numStep, h1]) (by omega))
            clear h1
            go_wp2_with fail
            go_meet
            case rel => exact ⟨rfl, i + 1, 2, by go_num, rfl, by omega, HX.out, by omega, by omega⟩
          · have t1 : (zs[i] == 48) = false := by simp [h1]
            by_cases h2 : 49 ≤ zs[i] ∧ zs[i] ≤ 57
            · have HX := hide (hinv0.step (p' := 3) hl (by simp [Pl.numStep, h1, h2]) (by omega))
              obtain ⟨h2, h3⟩ := h2
              clear h1
              go_wp2_with fail
              go_meet
              case rel => exact ⟨rfl, i + 1, 3, by go_num, rfl, by omega, HX.out, by omega, by omega⟩
            · have HX := hide (hinv0.stop hl (by rw [show Pl.numStep 1 zs[i] = -1 from by unfold Pl.numStep; rw [if_neg (by decide), if_pos rfl, if_neg h1, if_neg h2]]; decide))
              clear h1
              by_cases h3 : 49 ≤ zs[i]
              · have h4 : decide (zs[i] ≤ 57) = false := decide_eq_false (fun h => h2 ⟨h3, h⟩)
                clear h2
                go_wp2_with fail
                go_ret2
                exact ⟨i, 1, rfl, HX.out, rfl⟩
              · have h4 : decide (49 ≤ zs[i]) = false := decide_eq_false h3
                clear h2
                go_wp2_with fail
                go_ret2
                exact ⟨i, 1, rfl, HX.out, rfl⟩
        · have hne : ((i : Int) == (zs.length : Int)) = true := beq_iff_eq.2 (by omega)
          have HX := hide (hinv0.atEnd hl)
          go_wp2_with fail
          go_ret2
          exact ⟨i, 1, rfl, HX.out, rfl⟩
      · have hq' : (q == 1) = false := beq_eq_false_iff_ne.2 hq
        have HX := hide hinv0
        have hq2 : 2 ≤ q := by omega
        clear hq
        go_wp2_with fail
        go_meet
        case rel => exact ⟨rfl, i, q, rfl, rfl, hi, HX.out, hq2, hq8⟩
  case rest =>
    obtain ⟨rfl, k, p, rfl, rfl, hk, hinv, hp2, hp8⟩ := hcut
    have H0 := hide hinv
    clear hinv hinv0 hi hq0
    go_upto_if 56 with fail
    -- the integer's other digits
    go_cut [1, 2] (fun t u wd => wd = wc ∧ ∃ (k : Nat) (p : Int), t = .int .i64 k ∧ u = .int .i64 p ∧ k ≤ zs.length ∧ NInv zs q k p ∧ 2 ≤ p ∧ p ≤ 8 ∧ (p = 3 → ∀ h : k < zs.length, Pl.digB zs[k] = false))
    case first =>
      as_aux_lemma =>
        by_cases hp : p = 3
        · subst hp
          have HD := hide (NInv.digits step3 (by omega) _ k rfl H0.out)
          have hle := digEnd_le zs k hk
          have HS := hide (digEnd_stop zs k)
          have HP := hide (f33 B a c zs k wc hlen hk hb)
          go_wp2_with fail
          refine HP.out.mono ?_
          rintro e w1 ⟨rfl, rfl⟩
          go_wp2_with fail
          go_meet
          case rel => exact ⟨rfl, digEnd zs k, 3, rfl, rfl, hle, HD.out, by omega, by omega, fun _ h => HS.out h⟩
        · have hp' : (p == 3) = false := beq_eq_false_iff_ne.2 hp
          have HN : Hid (p = 3 → ∀ h : k < zs.length, Pl.digB zs[k] = false) := fun h => absurd h hp
          clear hp
          go_wp2_with fail
          go_meet
          case rel => exact ⟨rfl, k, p, rfl, rfl, hk, H0.out, hp2, hp8, HN.out⟩
    case rest =>
      clear H0 hp2 hp8 hk
      clear k p
      obtain ⟨rfl, k, p, rfl, rfl, hk, hinv, hp2, hp8, hdg⟩ := hcut
      have H0 := hide hinv
      have HDG := hide hdg
      clear hinv hdg
      go_upto_if 61 with fail
      -- behind the integer
      go_cut [1, 2] (fun t u we => we = wc ∧ ∃ (k : Nat) (p : Int), t = .int .i64 k ∧ u = .int .i64 p ∧ k ≤ zs.length ∧ NInv zs q k p ∧ 4 ≤ p ∧ p ≤ 8)
      case first =>
        as_aux_lemma =>
          by_cases hp : p ≤ 3
          · by_cases hl : k < zs.length
            · obtain ⟨b, o, rfl, _, hc⟩ := hb k hl
              have hne : ((k : Int) == (zs.length : Int)) = false := beq_eq_false_iff_ne.2 (by omega)
              have hnd : p = 2 ∨ (p = 3 ∧ Pl.digB zs[k] = false) := by
                by_cases h : p = 3
                · exact Or.inr ⟨h, HDG.out h hl⟩
                · exact Or.inl (by omega)
              by_cases h1 : zs[k] = 46
              · have t1 : (zs[k] == 46) = true := by simp [h1]
                have HX := hide (H0.out.step (p' := 4) hl (by rcases hnd with rfl | ⟨rfl, hd⟩ <;> simp [Pl.numStep, h1]; decide) (by omega))
                clear h1 hnd
                go_wp2_with fail
                go_meet
                case rel => exact ⟨rfl, k + 1, 4, by go_num, rfl, by omega, HX.out, by omega, by omega⟩
              · have t1 : (zs[k] == 46) = false := by simp [h1]
                by_cases h2 : zs[k] = 101
                · have t2 : (zs[k] == 101) = true := by simp [h2]
                  have HX := hide (H0.out.step (p' := 6) hl (by rcases hnd with rfl | ⟨rfl, hd⟩ <;> simp [Pl.numStep, h2]; decide) (by omega))
                  clear h1 h2 hnd
                  go_wp2_with fail
                  go_meet
                  case rel => exact ⟨rfl, k + 1, 6, by go_num, rfl, by omega, HX.out, by omega, by omega⟩
                · have t2 : (zs[k] == 101) = false := by simp [h2]
                  by_cases h3 : zs[k] = 69
                  · have t3 : (zs[k] == 69) = true := by simp [h3]
                    have HX := hide (H0.out.step (p' := 6) hl (by rcases hnd with rfl | ⟨rfl, hd⟩ <;> simp [Pl.numStep, h3]; decide) (by omega))
                    clear h1 h2 h3 hnd
                    go_wp2_with fail
                    go_meet
                    case rel => exact ⟨rfl, k + 1, 6, by go_num, rfl, by omega, HX.out, by omega, by omega⟩
                  · have t3 : (zs[k] == 69) = false := by simp [h3]
                    have HX := hide (H0.out.stop hl (by rcases hnd with rfl | ⟨rfl, hd⟩ <;> simp [Pl.numStep, *]))
                    clear h1 h2 h3 hnd
                    go_wp2_with fail
                    go_ret2
                    exact ⟨k, p, rfl, HX.out, rfl⟩
            · have hne : ((k : Int) == (zs.length : Int)) = true := beq_iff_eq.2 (by omega)
              have HX := hide (H0.out.atEnd hl)
              go_wp2_with fail
              go_ret2
              exact ⟨k, p, rfl, HX.out, rfl⟩
          · have hp' : decide (p ≤ 3) = false := decide_eq_false hp
            go_wp2_with fail
            go_meet
            case rel => exact ⟨rfl, k, p, rfl, rfl, hk, H0.out, by omega, hp8⟩
      case rest =>
        clear H0 hp2 hp8 hk HDG
        clear k p
        obtain ⟨rfl, k, p, rfl, rfl, hk, hinv, hp4, hp8⟩ := hcut
        have H0 := hide hinv
        clear hinv
        go_upto_if 93 with fail
        -- the fraction's first digit
        go_cut [1, 2] (fun t u wf => wf = wc ∧ ∃ (k : Nat) (p : Int), t = .int .i64 k ∧ u = .int .i64 p ∧ k ≤ zs.length ∧ NInv zs q k p ∧ 5 ≤ p ∧ p ≤ 8)
        case first =>
          as_aux_lemma =>
            by_cases hp : p = 4
            · subst hp
              by_cases hl : k < zs.length
              · obtain ⟨b, o, rfl, _, hc⟩ := hb k hl
                have hne : ((k : Int) == (zs.length : Int)) = false := beq_eq_false_iff_ne.2 (by omega)
                cases hd : Pl.digB zs[k]
                · have HX := hide (H0.out.stop hl (by simp [Pl.numStep, hd]))
                  go_wp2_with (go_at_call 34; refine (f34 _ _).mono ?_; rintro e w' ⟨rfl, rfl⟩)
                  go_ret2
                  exact ⟨k, 4, rfl, HX.out, rfl⟩
                · have HX := hide (H0.out.swap (p' := 5) hl (by simp [Pl.numStep, hd]) (by simp [Pl.numStep, hd]))
                  go_wp2_with (go_at_call 34; refine (f34 _ _).mono ?_; rintro e w' ⟨rfl, rfl⟩)
                  go_meet
                  case rel => exact ⟨rfl, k, 5, rfl, rfl, hk, HX.out, by omega, by omega⟩
              · have hne : ((k : Int) == (zs.length : Int)) = true := beq_iff_eq.2 (by omega)
                have HX := hide (H0.out.atEnd hl)
                go_wp2_with fail
                go_ret2
                exact ⟨k, 4, rfl, HX.out, rfl⟩
            · have hp' : (p == 4) = false := beq_eq_false_iff_ne.2 hp
              have hp5 : 5 ≤ p := by omega
              clear hp
              go_wp2_with fail
              go_meet
              case rel => exact ⟨rfl, k, p, rfl, rfl, hk, H0.out, hp5, hp8⟩
        case rest =>
          clear H0 hp4 hp8 hk
          clear k p
          obtain ⟨rfl, k, p, rfl, rfl, hk, hinv, hp5, hp8⟩ := hcut
          have H0 := hide hinv
          clear hinv
          go_upto_if 109 with fail
          -- the fraction's other digits, and what is behind it
          go_cut [1, 2] (fun t u wf => wf = wc ∧ ∃ (k : Nat) (p : Int), t = .int .i64 k ∧ u = .int .i64 p ∧ k ≤ zs.length ∧ NInv zs q k p ∧ 6 ≤ p ∧ p ≤ 8)
          case first =>
            as_aux_lemma =>
              by_cases hp : p = 5
              · subst hp
                have HD := hide (NInv.digits step5 (by omega) _ k rfl H0.out)
                have hle := digEnd_le zs k hk
                have HS := hide (digEnd_stop zs k)
                have HP := hide (f33 B a c zs k wc hlen hk hb)
                clear H0
                go_wp2_with fail
                refine HP.out.mono ?_
                clear HP
                rintro e w1 ⟨rfl, rfl⟩
                generalize digEnd zs k = j at hle HD HS ⊢
                by_cases hl : j < zs.length
                · obtain ⟨b, o, rfl, _, hc⟩ := hb j hl
                  have hd := HS.out hl
                  have hne : ((j : Int) == (zs.length : Int)) = false := beq_eq_false_iff_ne.2 (by omega)
                  by_cases h1 : zs[j] = 101
                  · have t1 : (zs[j] != 101) = false := by simp [h1]
                    have HX := hide (HD.out.step (p' := 6) hl (by simp [Pl.numStep, h1]; decide) (by omega))
                    clear h1 hd HD HS
                    go_wp2_with fail
                    go_meet
                    case rel => exact ⟨rfl, j + 1, 6, by go_num, rfl, by omega, HX.out, by omega, by omega⟩
                  · have t1 : (zs[j] != 101) = true := by simp [h1]
                    by_cases h2 : zs[j] = 69
                    · have t2 : (zs[j] != 69) = false := by simp [h2]
                      have HX := hide (HD.out.step (p' := 6) hl (by simp [Pl.numStep, h2]; decide) (by omega))
                      clear h1 h2 hd HD HS
                      go_wp2_with fail
                      go_meet
                      case rel => exact ⟨rfl, j + 1, 6, by go_num, rfl, by omega, HX.out, by omega, by omega⟩
                    · have t2 : (zs[j] != 69) = true := by simp [h2]
                      have HX := hide (HD.out.stop hl (by simp [Pl.numStep, h1, h2, hd]))
                      clear h1 h2 hd HD HS
                      go_wp2_with fail
                      go_ret2
                      exact ⟨j, 5, rfl, HX.out, rfl⟩
                · have hne : ((j : Int) == (zs.length : Int)) = true := beq_iff_eq.2 (by omega)
                  have HX := hide (HD.out.atEnd hl)
                  clear HD HS
                  go_wp2_with fail
                  go_ret2
                  exact ⟨j, 5, rfl, HX.out, rfl⟩
              · have hp' : (p == 5) = false := beq_eq_false_iff_ne.2 hp
                have hp6 : 6 ≤ p := by omega
                clear hp
                go_wp2_with fail
                go_meet
                case rel => exact ⟨rfl, k, p, rfl, rfl, hk, H0.out, hp6, hp8⟩
          case rest =>
            clear H0 hp5 hp8 hk
            clear k p
            obtain ⟨rfl, k, p, rfl, rfl, hk, hinv, hp6, hp8⟩ := hcut
            have H0 := hide hinv
            clear hinv
            go_upto_if 136 with fail
            -- the exponent's sign
            go_cut [1, 2] (fun t u wf => wf = wc ∧ ∃ (k : Nat) (p : Int), t = .int .i64 k ∧ u = .int .i64 p ∧ k ≤ zs.length ∧ NInv zs q k p ∧ 7 ≤ p ∧ p ≤ 8)
            case first =>
              as_aux_lemma =>
                by_cases hp : p = 6
                · subst hp
                  by_cases hl : k < zs.length
                  · obtain ⟨b, o, rfl, _, hc⟩ := hb k hl
                    have hne : ((k : Int) == (zs.length : Int)) = false := beq_eq_false_iff_ne.2 (by omega)
                    by_cases h1 : zs[k] = 43
                    · have t1 : (zs[k] == 43) = true := by simp [h1]
                      have HX := hide (H0.out.step (p' := 7) hl (by simp [Pl.numStep, h1]) (by omega))
                      clear h1
                      go_wp2_with fail
                      go_meet
                      case rel => exact ⟨rfl, k + 1, 7, by go_num, rfl, by omega, HX.out, by omega, by omega⟩
                    · have t1 : (zs[k] == 43) = false := by simp [h1]
                      by_cases h2 : zs[k] = 45
                      · have t2 : (zs[k] == 45) = true := by simp [h2]
                        have HX := hide (H0.out.step (p' := 7) hl (by simp [Pl.numStep, h2]) (by omega))
                        clear h1 h2
                        go_wp2_with fail
                        go_meet
                        case rel => exact ⟨rfl, k + 1, 7, by go_num, rfl, by omega, HX.out, by omega, by omega⟩
                      · have t2 : (zs[k] == 45) = false := by simp [h2]
                        have HX := hide (H0.out.sign hl h1 h2)
                        clear h1 h2
                        go_wp2_with fail
                        go_meet
                        case rel => exact ⟨rfl, k, 7, rfl, rfl, hk, HX.out, by omega, by omega⟩
                  · have hne : ((k : Int) == (zs.length : Int)) = true := beq_iff_eq.2 (by omega)
                    have HX := hide (H0.out.atEnd hl)
                    go_wp2_with fail
                    go_ret2
                    exact ⟨k, 6, rfl, HX.out, rfl⟩
                · have hp' : (p == 6) = false := beq_eq_false_iff_ne.2 hp
                  have hp7 : 7 ≤ p := by omega
                  clear hp
                  go_wp2_with fail
                  go_meet
                  case rel => exact ⟨rfl, k, p, rfl, rfl, hk, H0.out, hp7, hp8⟩
            case rest =>
              clear H0 hp6 hp8 hk
              clear k p
              obtain ⟨rfl, k, p, rfl, rfl, hk, hinv, hp7, hp8⟩ := hcut
              have H0 := hide hinv
              clear hinv
              go_upto_if 158 with fail
              -- the exponent's first digit
              go_cut [1, 2] (fun t u wf => wf = wc ∧ ∃ (k : Nat), t = .int .i64 k ∧ u = .int .i64 8 ∧ k ≤ zs.length ∧ NInv zs q k 8)
              case first =>
                as_aux_lemma =>
                  by_cases hp : p = 7
                  · subst hp
                    by_cases hl : k < zs.length
                    · obtain ⟨b, o, rfl, _, hc⟩ := hb k hl
                      have hne : ((k : Int) == (zs.length : Int)) = false := beq_eq_false_iff_ne.2 (by omega)
                      cases hd : Pl.digB zs[k]
                      · have HX := hide (H0.out.stop hl (by simp [Pl.numStep, hd]))
                        go_wp2_with (go_at_call 34; refine (f34 _ _).mono ?_; rintro e w' ⟨rfl, rfl⟩)
                        go_ret2
                        exact ⟨k, 7, rfl, HX.out, rfl⟩
                      · have HX := hide (H0.out.swap (p' := 8) hl (by simp [Pl.numStep, hd]) (by simp [Pl.numStep, hd]))
                        go_wp2_with (go_at_call 34; refine (f34 _ _).mono ?_; rintro e w' ⟨rfl, rfl⟩)
                        go_meet
                        case rel => exact ⟨rfl, k, rfl, rfl, hk, HX.out⟩
                    · have hne : ((k : Int) == (zs.length : Int)) = true := beq_iff_eq.2 (by omega)
                      have HX := hide (H0.out.atEnd hl)
                      go_wp2_with fail
                      go_ret2
                      exact ⟨k, 7, rfl, HX.out, rfl⟩
                  · obtain rfl : p = 8 := by omega
                    go_wp2_with fail
                    go_meet
                    case rel => exact ⟨rfl, k, rfl, rfl, hk, H0.out⟩
              case rest =>
                clear H0 hp7 hp8 hk
                clear k p
                obtain ⟨rfl, k, rfl, rfl, hk, hinv⟩ := hcut
                have HD := hide (NInv.digits step8 (by omega) _ k rfl hinv)
                have HX : Hid (NFin zs q (digEnd zs k) 8) := HD.out.fin (fun _ h => by have := digEnd_stop zs k h; simp [Pl.numStep, this])
                have HP := hide (f33 B a c zs k wc hlen hk hb)
                clear hinv HD
                go_wp2_with fail
                refine HP.out.mono ?_
                clear HP
                rintro e w1 ⟨rfl, rfl⟩
                go_wp2_with fail
                go_ret2
                exact ⟨digEnd zs k, 8, rfl, HX.out, rfl⟩

/-- numberEnd, from the start of the bytes. -/
theorem f26 (B : Nat) (a : Option Addr) (c : Nat) (zs : List Int) (q : Int) (w : World) (hlen : zs.length ≤ 1048576) (hb : BytesAt B w a zs) (hq1 : 1 ≤ q) (hq8 : q ≤ 8) :
    Calls Tryd.prog 26 #[.slice a zs.length c, .int .i64 0, .int .i64 q] w (NPost zs q w) := by
  have h := f26_at 0 B a c zs q w hlen (by omega) hb (NInv.start zs q) hq1 hq8
  simpa using h

end Go.Proofs.Qxb6616667aDoor
