/-
  THE PLAIN LAW: the model at a cut.
-/
import Derived.Test.Qxb6616667aDoorW10
namespace Go.Proofs.Qxb6616667aDoor
open Go.RowKit
set_option linter.unusedVariables false

theorem ints_extract (s : ByteArray) (p : Nat) : ints (s.extract p s.size) = (ints s).drop p := by
  unfold ints
  rw [ByteArray.data_extract]
  simp [List.map_drop]
  exact List.take_of_length_le (by simp)
theorem ite_cong {a b : Bool} (h : a = b) : (if a = true then (1 : Nat) else 0) = if b = true then 1 else 0 := by rw [h]
theorem extract_extract (s : ByteArray) (p m : Nat) (h : p ≤ s.size) : (s.extract p s.size).extract m (s.extract p s.size).size = s.extract (p + m) s.size := by
  apply ByteArray.ext
  simp [ByteArray.data_extract, Array.extract_extract]
  rw [show min (p + (s.size - p)) s.size = s.size from by omega]

/-- What holds where the piece zs is cut at p. -/
structure CutLaw (p : Nat) (r r1 r2 : R) : Prop where
  k1 : r1.ct ≤ 3
  k : r.ct ≤ 3
  stop : r1.ct = 0 → r1.n = r.n ∧ r1.ok = r.ok ∧ r1.l = r.l ∧ r1.h = r.h ∧ r1.num = r.num ∧ r1.lit = r.lit
  cut : r1.ct ≠ 0 → r1.n = p ∧ r1.ok = true ∧ Reach r1.ct r1.l r1.h r1.num r1.lit
  go : r1.ct ≠ 0 → r.n = p + r2.n ∧ r.ok = r2.ok ∧ r.ct = r2.ct
  goOk : r1.ct ≠ 0 → r2.ok = true → r2.l = r.l ∧ r2.h = r.h ∧ (r.ct = 2 → r2.num = r.num) ∧ (r.ct = 3 → r2.lit = r.lit)

theorem cut_string (l : Bool) (h num : Int) (lit : ByteArray) (xs ys : List Int) (hr : Reach 1 l h num lit) :
    CutLaw xs.length (model 1 l h num lit (xs ++ ys)) (model 1 l h num lit xs)
      (model (model 1 l h num lit xs).ct (model 1 l h num lit xs).l (model 1 l h num lit xs).h (model 1 l h num lit xs).num (model 1 l h num lit xs).lit ys) := by
  have m : ∀ zs, model 1 l h num lit zs = ⟨(Pl.sm l h l h zs).n, (Pl.sm l h l h zs).ok, if (Pl.sm l h l h zs).cut = true then 1 else 0, (Pl.sm l h l h zs).l, (Pl.sm l h l h zs).h, num, lit⟩ := fun _ => rfl
  obtain ⟨g1, g2⟩ := Pl.sm_append xs ys l h l h
  have hok := Pl.sm_okSt xs l h l h hr.st hr.st
  cases hc : (Pl.sm l h l h xs).cut
  · have e1 : (model 1 l h num lit xs).ct = 0 := by rw [m]; simp [hc]
    have e : model 1 l h num lit (xs ++ ys) = model 1 l h num lit xs := by rw [m, m, g1 hc]
    rw [e]
    exact ⟨by omega, by omega, fun _ => ⟨rfl, rfl, rfl, rfl, rfl, rfl⟩, fun h => absurd e1 h, fun h => absurd e1 h, fun h => absurd e1 h⟩
  · obtain ⟨hn, ho, s1, s2, e⟩ := g2 hc
    have e1 : model 1 l h num lit xs = ⟨xs.length, true, 1, (Pl.sm l h l h xs).l, (Pl.sm l h l h xs).h, num, lit⟩ := by rw [m, hn, ho, hc]; rfl
    rw [e1, m (xs ++ ys), e]
    obtain ⟨a1, a2, a3, a4⟩ := Pl.sm_start ys (Pl.sm l h l h xs).l (Pl.sm l h l h xs).h s1 (Pl.sm l h l h xs).l s2 (Pl.sm l h l h xs).h
    have m2 : model 1 (Pl.sm l h l h xs).l (Pl.sm l h l h xs).h num lit ys = ⟨_, _, _, _, _, num, lit⟩ := rfl
    simp only
    rw [m2]
    refine ⟨by simp, by simp only; split <;> omega, fun h => by simp at h, fun _ => ⟨rfl, rfl, ⟨by simp, hok, hr.num0, hr.num8, by simp, by simp, hr.litL⟩⟩, fun _ => ⟨?_, ?_, ?_⟩, fun _ hok2 => ?_⟩
    · simp only [Pl.SR.add]; rw [a1]
    · simp only [Pl.SR.add]; rw [a2]
    · exact ite_cong a3
    · simp only at hok2
      obtain ⟨b1, b2⟩ := a4 (by rw [a2]; exact hok2)
      refine ⟨by simp only [Pl.SR.add]; rw [b1], by simp only [Pl.SR.add]; rw [b2], fun h => by simp, fun h => by simp⟩

theorem cut_number (l : Bool) (h num : Int) (lit : ByteArray) (xs ys : List Int) (hr : Reach 2 l h num lit) :
    CutLaw xs.length (model 2 l h num lit (xs ++ ys)) (model 2 l h num lit xs)
      (model (model 2 l h num lit xs).ct (model 2 l h num lit xs).l (model 2 l h num lit xs).h (model 2 l h num lit xs).num (model 2 l h num lit xs).lit ys) := by
  have m : ∀ q zs, model 2 l h q lit zs = if (Pl.nm q zs).1 = zs.length then ⟨zs.length, true, 2, l, h, (Pl.nm q zs).2, lit⟩ else ⟨(Pl.nm q zs).1, Pl.wholeB (Pl.nm q zs).2, 0, l, h, q, lit⟩ := fun _ _ => rfl
  obtain ⟨g1, g2⟩ := Pl.nm_append xs ys num
  have hle := Pl.nm_le xs num
  have hrg := Pl.nm_range xs num (hr.numC rfl) hr.num8
  by_cases hc : (Pl.nm num xs).1 = xs.length
  · have e1 : model 2 l h num lit xs = ⟨xs.length, true, 2, l, h, (Pl.nm num xs).2, lit⟩ := by rw [m, if_pos hc]
    have e := g2 hc
    rw [e1]
    simp only
    rw [m (Pl.nm num xs).2 ys, m num (xs ++ ys), e]
    generalize (Pl.nm num xs).2 = q at *
    by_cases hd : (Pl.nm q ys).1 = ys.length
    · rw [if_pos (by simp; omega), if_pos hd]
      exact ⟨by simp, by simp, fun h => by simp at h, fun _ => ⟨rfl, rfl, ⟨by simp, hr.st, by simp only; omega, by simp only; omega, fun _ => by simp only; omega, by simp, hr.litL⟩⟩, fun _ => ⟨by simp, rfl, rfl⟩, fun _ _ => ⟨rfl, rfl, fun _ => rfl, fun _ => rfl⟩⟩
    · rw [if_neg (by simp; omega), if_neg hd]
      exact ⟨by simp, by simp, fun h => by simp at h, fun _ => ⟨rfl, rfl, ⟨by simp, hr.st, by simp only; omega, by simp only; omega, fun _ => by simp only; omega, by simp, hr.litL⟩⟩, fun _ => ⟨by simp, rfl, rfl⟩, fun _ _ => ⟨rfl, rfl, fun h => by simp at h, fun _ => rfl⟩⟩
  · have e1 : model 2 l h num lit xs = ⟨(Pl.nm num xs).1, Pl.wholeB (Pl.nm num xs).2, 0, l, h, num, lit⟩ := by rw [m, if_neg hc]
    have e : model 2 l h num lit (xs ++ ys) = model 2 l h num lit xs := by rw [e1, m, g1 hc, if_neg (by simp; omega)]
    have ez : (model 2 l h num lit xs).ct = 0 := by rw [e1]
    rw [e]
    exact ⟨by omega, by omega, fun _ => ⟨rfl, rfl, rfl, rfl, rfl, rfl⟩, fun h => absurd ez h, fun h => absurd ez h, fun h => absurd ez h⟩

theorem cut_literal (l : Bool) (h num : Int) (lit : ByteArray) (xs ys : List Int) (hr : Reach 3 l h num lit) :
    CutLaw xs.length (model 3 l h num lit (xs ++ ys)) (model 3 l h num lit xs)
      (model (model 3 l h num lit xs).ct (model 3 l h num lit xs).l (model 3 l h num lit xs).h (model 3 l h num lit xs).num (model 3 l h num lit xs).lit ys) := by
  have m : ∀ s zs, model 3 l h num s zs = if Pl.lcp (ints s) zs = s.size then ⟨Pl.lcp (ints s) zs, true, 0, l, h, num, s⟩
    else if Pl.lcp (ints s) zs = zs.length then ⟨Pl.lcp (ints s) zs, true, 3, l, h, num, s.extract (Pl.lcp (ints s) zs) s.size⟩
    else ⟨Pl.lcp (ints s) zs, false, 0, l, h, num, s⟩ := fun _ _ => rfl
  obtain ⟨g1, g2⟩ := Pl.lcp_append (ints lit) xs ys
  have hle1 := Pl.lcp_le1 (ints lit) xs
  have hle2 := Pl.lcp_le2 (ints lit) xs
  rw [ints_len] at hle1 g1
  by_cases ha : Pl.lcp (ints lit) xs = lit.size
  · have e : model 3 l h num lit (xs ++ ys) = model 3 l h num lit xs := by rw [m, m, g1 (Or.inr ha), if_pos ha, if_pos ha]
    have ez : (model 3 l h num lit xs).ct = 0 := by rw [m, if_pos ha]
    rw [e]
    exact ⟨by omega, by omega, fun _ => ⟨rfl, rfl, rfl, rfl, rfl, rfl⟩, fun h => absurd ez h, fun h => absurd ez h, fun h => absurd ez h⟩
  · by_cases hb : Pl.lcp (ints lit) xs = xs.length
    · have e1 : model 3 l h num lit xs = ⟨xs.length, true, 3, l, h, num, lit.extract xs.length lit.size⟩ := by rw [m, if_neg ha, if_pos hb, hb]
      have e := g2 hb
      have hsz : (lit.extract xs.length lit.size).size = lit.size - xs.length := by simp
      rw [e1]
      simp only
      rw [m (lit.extract xs.length lit.size) ys, m lit (xs ++ ys), e, ints_extract, hsz]
      have hR : Reach 3 l h num (lit.extract xs.length lit.size) := ⟨by omega, hr.st, hr.num0, hr.num8, by simp, fun _ => by rw [hsz]; omega, by rw [hsz]; have := hr.litL; omega⟩
      have hle3 := Pl.lcp_le1 ((ints lit).drop xs.length) ys
      rw [List.length_drop, ints_len] at hle3
      generalize hu : Pl.lcp ((ints lit).drop xs.length) ys = u at *
      by_cases h1 : u = lit.size - xs.length
      · rw [if_pos (show xs.length + u = lit.size by omega), if_pos h1]
        exact ⟨by simp, by simp, fun h => by simp at h, fun _ => ⟨rfl, rfl, hR⟩, fun _ => ⟨rfl, rfl, rfl⟩, fun _ _ => ⟨rfl, rfl, fun h => by simp at h, fun h => by simp at h⟩⟩
      · rw [if_neg (show ¬ xs.length + u = lit.size by omega), if_neg h1]
        by_cases h2 : u = ys.length
        · rw [if_pos (show xs.length + u = (xs ++ ys).length by simp; omega), if_pos h2]
          refine ⟨by simp, by simp, fun h => by simp at h, fun _ => ⟨rfl, rfl, hR⟩, fun _ => ⟨rfl, rfl, rfl⟩, fun _ _ => ⟨rfl, rfl, fun h => by simp at h, fun _ => ?_⟩⟩
          have := extract_extract lit xs.length u (by omega)
          rw [hsz] at this
          exact this
        · rw [if_neg (show ¬ xs.length + u = (xs ++ ys).length by simp; omega), if_neg h2]
          exact ⟨by simp, by simp, fun h => by simp at h, fun _ => ⟨rfl, rfl, hR⟩, fun _ => ⟨rfl, rfl, rfl⟩, fun _ h => by simp at h⟩
    · have e : model 3 l h num lit (xs ++ ys) = model 3 l h num lit xs := by rw [m, m, g1 (Or.inl hb), if_neg ha, if_neg ha, if_neg hb, if_neg (by simp; omega)]
      have ez : (model 3 l h num lit xs).ct = 0 := by rw [m, if_neg ha, if_neg hb]
      rw [e]
      exact ⟨by omega, by omega, fun _ => ⟨rfl, rfl, rfl, rfl, rfl, rfl⟩, fun h => absurd ez h, fun h => absurd ez h, fun h => absurd ez h⟩

/-- THE CUT LAW. -/
theorem cut_law (t : Nat) (l : Bool) (h num : Int) (lit : ByteArray) (zs : List Int) (p : Nat) (hp : p ≤ zs.length) (hr : Reach t l h num lit) :
    CutLaw p (model t l h num lit zs) (model t l h num lit (zs.take p))
      (model (model t l h num lit (zs.take p)).ct (model t l h num lit (zs.take p)).l (model t l h num lit (zs.take p)).h (model t l h num lit (zs.take p)).num (model t l h num lit (zs.take p)).lit (zs.drop p)) := by
  have hl : (zs.take p).length = p := by simp; omega
  rcases (show t = 0 ∨ t = 1 ∨ t = 2 ∨ t = 3 by have := hr.kind; omega) with rfl | rfl | rfl | rfl
  · have e : ∀ x, model 0 l h num lit x = ⟨0, true, 0, l, h, num, lit⟩ := fun _ => rfl
    rw [e, e]
    exact ⟨by simp, by simp, fun _ => ⟨rfl, rfl, rfl, rfl, rfl, rfl⟩, fun h => absurd rfl h, fun h => absurd rfl h, fun h => absurd rfl h⟩
  · have := cut_string l h num lit (zs.take p) (zs.drop p) hr
    rw [List.take_append_drop, hl] at this
    exact this
  · have := cut_number l h num lit (zs.take p) (zs.drop p) hr
    rw [List.take_append_drop, hl] at this
    exact this
  · have := cut_literal l h num lit (zs.take p) (zs.drop p) hr
    rw [List.take_append_drop, hl] at this
    exact this

end Go.Proofs.Qxb6616667aDoor
