/-
  THE PLAIN MATHEMATICS of FnFileErrorTellsLinesApart: the message, and that it tells lines apart. No Go in sight.
-/
import Derived.Lib.ItoaNum
namespace Go.Proofs.Qxb6616690aFmt.Pl

theorem snoc_inj {α : Type} {a b : List α} {x y : α} (h : a ++ [x] = b ++ [y]) : a = b ∧ x = y := by
  have h1 := congrArg List.reverse h
  simp at h1
  exact ⟨h1.2, h1.1⟩
theorem digit_inj {a b : Nat} (ha : a < 10) (hb : b < 10) (h : UInt8.ofNat (48 + a) = UInt8.ofNat (48 + b)) : a = b := by
  have h1 := congrArg UInt8.toNat h
  simp at h1
  omega

/-- The numeral of a number has no other number's. -/
theorem dec_inj : ∀ (n u v : Nat), u ≤ n → Lib.decDigits u = Lib.decDigits v → u = v
  | n, u, v, hn, h => by
    have hlen := congrArg List.length h
    rw [Lib.decDigits_length, Lib.decDigits_length] at hlen
    by_cases hu : u < 10
    · by_cases hv : v < 10
      · rw [Lib.decDigits_one hu, Lib.decDigits_one hv] at h
        exact digit_inj hu hv (by simpa using h)
      · rw [Lib.nDigits_small hu, Lib.nDigits_big hv] at hlen
        have := Lib.nDigits_pos (v / 10)
        omega
    · by_cases hv : v < 10
      · rw [Lib.nDigits_small hv, Lib.nDigits_big hu] at hlen
        have := Lib.nDigits_pos (u / 10)
        omega
      · match n with
        | 0 => omega
        | n + 1 =>
          rw [Lib.decDigits, dif_neg hu] at h
          conv at h => rhs; rw [Lib.decDigits, dif_neg hv]
          obtain ⟨h1, h2⟩ := snoc_inj h
          have e1 := dec_inj n (u / 10) (v / 10) (by omega) h1
          have e2 := digit_inj (a := u % 10) (b := v % 10) (by omega) (by omega) h2
          omega

/-- The first sign of a numeral is a digit. -/
theorem dec_head : ∀ (n u : Nat), u ≤ n → ∃ d r, d < 10 ∧ Lib.decDigits u = UInt8.ofNat (48 + d) :: r
  | n, u, hn => by
    by_cases hu : u < 10
    · exact ⟨u, [], hu, by rw [Lib.decDigits, dif_pos hu]⟩
    · match n with
      | 0 => omega
      | n + 1 =>
        obtain ⟨d, r, hd, e⟩ := dec_head n (u / 10) (by omega)
        refine ⟨d, r ++ [UInt8.ofNat (48 + u % 10)], hd, ?_⟩
        rw [Lib.decDigits, dif_neg hu, e]
        simp
theorem dec_no_minus (u : Nat) (r : List UInt8) : Lib.decDigits u ≠ 45 :: r := by
  obtain ⟨d, r', hd, e⟩ := dec_head u u (Nat.le_refl _)
  rw [e]
  intro h
  have h1 : UInt8.ofNat (48 + d) = 45 := (List.cons.inj h).1
  have h2 := congrArg UInt8.toNat h1
  simp at h2
  omega

theorem itoa_inj (a b : Int) (h : Lib.itoa a = Lib.itoa b) : a = b := by
  unfold Lib.itoa at h
  by_cases ha : a < 0
  · by_cases hb : b < 0
    · rw [if_pos ha, if_pos hb] at h
      have := dec_inj _ _ _ (Nat.le_refl _) (List.cons.inj h).2
      omega
    · rw [if_pos ha, if_neg hb] at h
      exact absurd h.symm (dec_no_minus _ _)
  · by_cases hb : b < 0
    · rw [if_neg ha, if_pos hb] at h
      exact absurd h (dec_no_minus _ _)
    · rw [if_neg ha, if_neg hb] at h
      have := dec_inj _ _ _ (Nat.le_refl _) h
      omega

/-- THE MESSAGE of a FileError. -/
def msg (path : List UInt8) (line : Int) (cause : List UInt8) : List UInt8 :=
  if line = 0 then path ++ ([58, 32] ++ cause) else path ++ ([58] ++ (Lib.itoa line ++ ([58, 32] ++ cause)))

theorem msg_prefix (path : List UInt8) (line : Int) (cause : List UInt8) : ∃ r, msg path line cause = path ++ r := by
  unfold msg; split <;> exact ⟨_, rfl⟩
theorem msg_suffix (path : List UInt8) (line : Int) (cause : List UInt8) : ∃ r, msg path line cause = r ++ ([58, 32] ++ cause) := by
  unfold msg
  split
  · exact ⟨path, rfl⟩
  · exact ⟨path ++ ([58] ++ Lib.itoa line), by simp⟩
theorem msg_apart (path : List UInt8) (a b : Int) (cause : List UInt8) (h : msg path a cause = msg path b cause) : a = b := by
  unfold msg at h
  by_cases ha : a = 0
  · by_cases hb : b = 0
    · omega
    · rw [if_pos ha, if_neg hb] at h
      have := congrArg List.length h
      simp at this
      omega
  · by_cases hb : b = 0
    · rw [if_neg ha, if_pos hb] at h
      have := congrArg List.length h
      simp at this
      omega
    · rw [if_neg ha, if_neg hb] at h
      have h1 := List.append_cancel_left h
      have h2 := List.append_cancel_left h1
      exact itoa_inj a b (List.append_cancel_right h2)
theorem itoa_len (n : Int) : 1 ≤ (Lib.itoa n).length := by
  unfold Lib.itoa
  split
  · simp
  · rw [Lib.decDigits_length]; exact Lib.nDigits_pos _

end Go.Proofs.Qxb6616690aFmt.Pl
