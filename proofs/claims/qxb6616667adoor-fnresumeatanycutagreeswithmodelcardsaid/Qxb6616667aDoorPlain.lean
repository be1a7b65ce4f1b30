/-
  THE PLAIN MATHEMATICS of FnResumeAtAnyCutAgreesWithModel: what the model of the law, and resume itself, compute. No Go in sight.
-/
namespace Go.Proofs.Qxb6616667aDoor.Pl

/-! ### Bytes -/
def digB (c : Int) : Bool := decide (48 ≤ c) && decide (c ≤ 57)
def hexB (c : Int) : Bool := digB c || (decide (97 ≤ c) && decide (c ≤ 102)) || (decide (65 ≤ c) && decide (c ≤ 70))
def escB (c : Int) : Bool := c == 34 || c == 92 || c == 47 || c == 98 || c == 102 || c == 110 || c == 114 || c == 116

/-! ### A string -/
structure SR where
  n : Nat
  ok : Bool
  cut : Bool
  l : Bool
  h : Int
def SR.up (r : SR) : SR := ⟨r.n + 1, r.ok, r.cut, r.l, r.h⟩
def SR.add (i : Nat) (r : SR) : SR := ⟨i + r.n, r.ok, r.cut, r.l, r.h⟩

/-- One byte of a string: 'none': the string goes on in the state told; 'some': the end. -/
def sm : Bool → Int → Bool → Int → List Int → SR
  | l, h, _, _, [] => ⟨0, true, true, l, h⟩
  | true, h, sl, sh, c :: cs => if c = 117 then (sm false 4 sl sh cs).up else if escB c = true then (sm false h sl sh cs).up else ⟨0, false, false, sl, sh⟩
  | false, h, sl, sh, c :: cs =>
    if 0 < h then (if hexB c = true then (sm false (h - 1) sl sh cs).up else ⟨0, false, false, sl, sh⟩)
    else if c = 34 then ⟨1, true, false, false, 0⟩
    else if c = 92 then (sm true h false 0 cs).up
    else if c < 32 then ⟨0, false, false, false, 0⟩
    else (sm false h false 0 cs).up

theorem SR.add_zero (r : SR) : r.add 0 = r := by simp [SR.add]
theorem SR.add_up (i : Nat) (r : SR) : r.up.add i = r.add (i + 1) := by simp [SR.add, SR.up]; omega
theorem SR.add_add (i j : Nat) (r : SR) : (r.add j).add i = r.add (i + j) := by simp [SR.add]; omega

/-- At the end of the bytes the state where the escape began doesn't matter. -/
theorem sm_nil (l : Bool) (h : Int) (sl : Bool) (sh : Int) : sm l h sl sh [] = ⟨0, true, true, l, h⟩ := by cases l <;> simp [sm]

/-- A string that is cut has been read to its end. -/
theorem sm_le : ∀ (zs : List Int) (l : Bool) (h : Int) (sl : Bool) (sh : Int), (sm l h sl sh zs).n ≤ zs.length
  | [], l, h, sl, sh => by simp [sm_nil]
  | c :: cs, l, h, sl, sh => by
    have h1 := sm_le cs false 4 sl sh
    have h2 := sm_le cs false h sl sh
    have h3 := sm_le cs false (h - 1) sl sh
    have h4 := sm_le cs true h false 0
    have h5 := sm_le cs false h false 0
    cases l <;> simp only [sm] <;> (repeat' split) <;> simp [SR.up] <;> omega

/-- THE CUT LAW OF STRINGS, one byte list behind another. -/
theorem sm_append : ∀ (xs ys : List Int) (l : Bool) (h : Int) (sl : Bool) (sh : Int),
    ((sm l h sl sh xs).cut = false → sm l h sl sh (xs ++ ys) = sm l h sl sh xs) ∧
    ((sm l h sl sh xs).cut = true → (sm l h sl sh xs).n = xs.length ∧ (sm l h sl sh xs).ok = true ∧
      ∃ sl' sh', sm l h sl sh (xs ++ ys) = (sm (sm l h sl sh xs).l (sm l h sl sh xs).h sl' sh' ys).add xs.length)
  | [], ys, l, h, sl, sh => by
    refine ⟨fun hc => by simp [sm_nil] at hc, fun _ => ⟨by simp [sm_nil], by simp [sm_nil], sl, sh, ?_⟩⟩
    simp [sm_nil, SR.add_zero]
  | c :: cs, ys, l, h, sl, sh => by
    have up : ∀ l' h' sl' sh', ((sm l' h' sl' sh' cs).up.cut = false → (sm l' h' sl' sh' (cs ++ ys)).up = (sm l' h' sl' sh' cs).up) ∧
        ((sm l' h' sl' sh' cs).up.cut = true → (sm l' h' sl' sh' cs).up.n = (c :: cs).length ∧ (sm l' h' sl' sh' cs).up.ok = true ∧
          ∃ s1 s2, (sm l' h' sl' sh' (cs ++ ys)).up = (sm (sm l' h' sl' sh' cs).up.l (sm l' h' sl' sh' cs).up.h s1 s2 ys).add (c :: cs).length) := by
      intro l' h' sl' sh'
      obtain ⟨g1, g2⟩ := sm_append cs ys l' h' sl' sh'
      refine ⟨fun hc => by rw [g1 (by simpa [SR.up] using hc)], fun hc => ?_⟩
      obtain ⟨a, b, s1, s2, e⟩ := g2 (by simpa [SR.up] using hc)
      refine ⟨by simp [SR.up, a], by simpa [SR.up] using b, s1, s2, ?_⟩
      rw [e]
      simp [SR.up, SR.add]
      omega
    cases l
    · simp only [List.cons_append, sm]
      by_cases a : 0 < h
      · simp only [if_pos a]
        by_cases b : hexB c = true
        · simp only [if_pos b]; exact up _ _ _ _
        · simp only [if_neg b]; exact ⟨fun _ => trivial, fun h => by cases h⟩
      · simp only [if_neg a]
        by_cases b : c = 34
        · simp only [if_pos b]; exact ⟨fun _ => trivial, fun h => by cases h⟩
        · simp only [if_neg b]
          by_cases d : c = 92
          · simp only [if_pos d]; exact up _ _ _ _
          · simp only [if_neg d]
            by_cases e : c < 32
            · simp only [if_pos e]; exact ⟨fun _ => trivial, fun h => by cases h⟩
            · simp only [if_neg e]; exact up _ _ _ _
    · simp only [List.cons_append, sm]
      by_cases a : c = 117
      · simp only [if_pos a]; exact up _ _ _ _
      · simp only [if_neg a]
        by_cases b : escB c = true
        · simp only [if_pos b]; exact up _ _ _ _
        · simp only [if_neg b]; exact ⟨fun _ => trivial, fun h => by cases h⟩

/-- Where the string is still JSON the state where an escape began is not told. -/
theorem sm_start : ∀ (zs : List Int) (l : Bool) (h : Int) (sl sl' : Bool) (sh sh' : Int),
    (sm l h sl sh zs).n = (sm l h sl' sh' zs).n ∧ (sm l h sl sh zs).ok = (sm l h sl' sh' zs).ok ∧ (sm l h sl sh zs).cut = (sm l h sl' sh' zs).cut ∧
    ((sm l h sl sh zs).ok = true → (sm l h sl sh zs).l = (sm l h sl' sh' zs).l ∧ (sm l h sl sh zs).h = (sm l h sl' sh' zs).h)
  | [], l, h, sl, sl', sh, sh' => by simp [sm_nil]
  | c :: cs, l, h, sl, sl', sh, sh' => by
    have h1 := sm_start cs false 4 sl sl' sh sh'
    have h2 := sm_start cs false h sl sl' sh sh'
    have h3 := sm_start cs false (h - 1) sl sl' sh sh'
    cases l
    · simp only [sm]
      by_cases a : 0 < h
      · simp only [if_pos a]
        by_cases b : hexB c = true
        · simp only [if_pos b, SR.up]; exact ⟨by rw [h3.1], h3.2.1, h3.2.2.1, h3.2.2.2⟩
        · simp only [if_neg b]; simp
      · simp only [if_neg a]; simp
    · simp only [sm]
      by_cases a : c = 117
      · simp only [if_pos a, SR.up]; exact ⟨by rw [h1.1], h1.2.1, h1.2.2.1, h1.2.2.2⟩
      · simp only [if_neg a]
        by_cases b : escB c = true
        · simp only [if_pos b, SR.up]; exact ⟨by rw [h2.1], h2.2.1, h2.2.2.1, h2.2.2.2⟩
        · simp only [if_neg b]; simp

/-- What the state of a string may be. -/
def okSt (l : Bool) (h : Int) : Prop := 0 ≤ h ∧ h ≤ 4 ∧ (l = true → h = 0)
theorem sm_okSt : ∀ (zs : List Int) (l : Bool) (h : Int) (sl : Bool) (sh : Int), okSt l h → okSt sl sh → okSt (sm l h sl sh zs).l (sm l h sl sh zs).h
  | [], l, h, sl, sh, a, _ => by simpa [sm_nil] using a
  | c :: cs, l, h, sl, sh, a, b => by
    have h0 : okSt false 0 := ⟨by decide, by decide, by simp⟩
    have h1 := sm_okSt cs false 4 sl sh ⟨by decide, by decide, by simp⟩ b
    have h2 := sm_okSt cs false h sl sh ⟨a.1, a.2.1, by simp⟩ b
    cases l
    · simp only [sm]
      by_cases d : 0 < h
      · simp only [if_pos d]
        have h3 := sm_okSt cs false (h - 1) sl sh ⟨by have := a.1; omega, by have := a.2.1; omega, by simp⟩ b
        by_cases e : hexB c = true
        · simp only [if_pos e, SR.up]; exact h3
        · simp only [if_neg e]; exact b
      · simp only [if_neg d]
        have h4 := sm_okSt cs true h false 0 ⟨a.1, a.2.1, fun _ => by have := a.1; omega⟩ h0
        have h5 := sm_okSt cs false h false 0 ⟨a.1, a.2.1, by simp⟩ h0
        repeat' split
        · exact h0
        · simpa [SR.up] using h4
        · exact h0
        · simpa [SR.up] using h5
    · simp only [sm]
      repeat' split
      · simpa [SR.up] using h1
      · simpa [SR.up] using h2
      · exact b

/-! ### A number -/
def numStep (q c : Int) : Int :=
  if q = 0 then (if c = 45 then 1 else if c = 48 then 2 else if 49 ≤ c ∧ c ≤ 57 then 3 else -1)
  else if q = 1 then (if c = 48 then 2 else if 49 ≤ c ∧ c ≤ 57 then 3 else -1)
  else if q = 2 then (if c = 46 then 4 else if c = 101 ∨ c = 69 then 6 else -1)
  else if q = 3 then (if digB c = true then 3 else if c = 46 then 4 else if c = 101 ∨ c = 69 then 6 else -1)
  else if q = 4 then (if digB c = true then 5 else -1)
  else if q = 5 then (if digB c = true then 5 else if c = 101 ∨ c = 69 then 6 else -1)
  else if q = 6 then (if c = 43 ∨ c = 45 then 7 else if digB c = true then 8 else -1)
  else if q = 7 ∨ q = 8 then (if digB c = true then 8 else -1)
  else -1
def wholeB (q : Int) : Bool := q == 2 || q == 3 || q == 5 || q == 8

def nm : Int → List Int → Nat × Int
  | q, [] => (0, q)
  | q, c :: cs => if numStep q c < 0 then (0, q) else ((nm (numStep q c) cs).1 + 1, (nm (numStep q c) cs).2)

theorem numStep_range (q c : Int) : numStep q c < 0 ∨ (1 ≤ numStep q c ∧ numStep q c ≤ 8) := by
  unfold numStep
  repeat' split
  all_goals (first | (right; omega) | (left; omega))

theorem nm_le : ∀ (zs : List Int) (q : Int), (nm q zs).1 ≤ zs.length
  | [], q => by simp [nm]
  | c :: cs, q => by
    have := nm_le cs (numStep q c)
    simp only [nm]
    split <;> simp
    omega

theorem nm_range : ∀ (zs : List Int) (q : Int), 1 ≤ q → q ≤ 8 → 1 ≤ (nm q zs).2 ∧ (nm q zs).2 ≤ 8
  | [], q, a, b => ⟨a, b⟩
  | c :: cs, q, a, b => by
    simp only [nm]
    split
    · exact ⟨a, b⟩
    · rename_i h
      rcases numStep_range q c with h' | ⟨h1, h2⟩
      · exact absurd h' h
      · exact nm_range cs _ h1 h2

/-- THE CUT LAW OF NUMBERS. -/
theorem nm_append : ∀ (xs ys : List Int) (q : Int),
    ((nm q xs).1 ≠ xs.length → nm q (xs ++ ys) = nm q xs) ∧
    ((nm q xs).1 = xs.length → nm q (xs ++ ys) = (xs.length + (nm (nm q xs).2 ys).1, (nm (nm q xs).2 ys).2))
  | [], ys, q => by simp [nm]
  | c :: cs, ys, q => by
    obtain ⟨g1, g2⟩ := nm_append cs ys (numStep q c)
    simp only [List.cons_append, nm]
    by_cases h : numStep q c < 0
    · simp only [if_pos h]; refine ⟨fun _ => trivial, fun hh => ?_⟩; simp at hh
    · simp only [if_neg h]
      refine ⟨fun hh => ?_, fun hh => ?_⟩
      · rw [g1 (by simpa using hh)]
      · rw [g2 (by simpa using hh)]
        simp
        omega

/-! ### A literal -/
def lcp : List Int → List Int → Nat
  | a :: as, c :: cs => if c = a then lcp as cs + 1 else 0
  | _, _ => 0

theorem lcp_le1 : ∀ (as cs : List Int), lcp as cs ≤ as.length
  | [], _ => by simp [lcp]
  | _ :: _, [] => by simp [lcp]
  | a :: as, c :: cs => by have := lcp_le1 as cs; simp only [lcp]; split <;> simp <;> omega
theorem lcp_le2 : ∀ (as cs : List Int), lcp as cs ≤ cs.length
  | [], _ => by simp [lcp]
  | _ :: _, [] => by simp [lcp]
  | a :: as, c :: cs => by have := lcp_le2 as cs; simp only [lcp]; split <;> simp <;> omega

/-- THE CUT LAW OF LITERALS. -/
theorem lcp_append : ∀ (as xs ys : List Int),
    ((lcp as xs ≠ xs.length ∨ lcp as xs = as.length) → lcp as (xs ++ ys) = lcp as xs) ∧
    (lcp as xs = xs.length → lcp as (xs ++ ys) = xs.length + lcp (as.drop xs.length) ys)
  | as, [], ys => by
    refine ⟨fun h => ?_, fun _ => by simp⟩
    rcases h with h | h
    · cases as <;> simp [lcp] at h
    · have : as = [] := by cases as <;> simp_all [lcp]
      subst this; simp [lcp]
  | [], x :: xs, ys => by simp [lcp]
  | a :: as, x :: xs, ys => by
    obtain ⟨g1, g2⟩ := lcp_append as xs ys
    simp only [List.cons_append, lcp]
    by_cases h : x = a
    · simp only [if_pos h]
      refine ⟨fun hh => ?_, fun hh => ?_⟩
      · rw [g1 (by simpa using hh)]
      · rw [g2 (by simpa using hh)]
        simp
        omega
    · simp only [if_neg h]
      refine ⟨fun _ => trivial, fun hh => ?_⟩
      simp at hh

end Go.Proofs.Qxb6616667aDoor.Pl
