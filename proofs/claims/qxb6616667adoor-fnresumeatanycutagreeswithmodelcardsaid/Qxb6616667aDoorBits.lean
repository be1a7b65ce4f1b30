/-
  THE PLAIN MATHEMATICS of stringStop's word of eight bytes: which byte is the first that is a quote, a backslash or a control character. No Go in sight.
-/
import Derived.Lib.TrailingZeros
namespace Go.Proofs.Qxb6616667aDoor.Pl

def val : List Nat → Nat
  | [] => 0
  | b :: r => b + 256 * val r
def ones : Nat → Nat
  | 0 => 0
  | n + 1 => 1 + 256 * ones n
theorem ones_pow : ∀ n, ones n * 255 + 1 = 256 ^ n
  | 0 => rfl
  | n + 1 => by have h := ones_pow n; rw [Nat.pow_succ, ← h]; clear h; show (1 + 256 * ones n) * 255 + 1 = _; generalize ones n = o; omega
def dif (c : Nat) (bs : List Nat) : Nat := val bs + 256 ^ bs.length - ones bs.length * c

theorem mul_le_255 (o c : Nat) (hc : c ≤ 128) : o * c ≤ o * 255 := Nat.mul_le_mul_left o (by omega)
theorem ones_lt (n c : Nat) (hc : c ≤ 128) : ones n * c < 256 ^ n := by
  have h1 := ones_pow n
  have h2 := mul_le_255 (ones n) c hc
  omega
theorem dif_ge (c b : Nat) (bs : List Nat) (hc : c ≤ 128) (h : c ≤ b) : dif c (b :: bs) = (b - c) + 256 * dif c bs := by
  have h1 := ones_lt bs.length c hc
  simp only [dif, val, List.length_cons, ones, Nat.pow_succ, Nat.add_mul, Nat.one_mul, Nat.mul_assoc]
  omega
theorem dif_lt (c b : Nat) (bs : List Nat) (hc : c ≤ 128) (h : b < c) : dif c (b :: bs) = (b + 256 - c) + 256 * (dif c bs - 1) := by
  have h1 := ones_lt bs.length c hc
  simp only [dif, val, List.length_cons, ones, Nat.pow_succ, Nat.add_mul, Nat.one_mul, Nat.mul_assoc]
  omega

theorem tb_lo (b v i : Nat) (hb : b < 256) (hi : i < 8) : (b + 256 * v).testBit i = b.testBit i := by
  have := Nat.testBit_two_pow_mul_add v (show b < 2 ^ 8 from hb) i
  rw [show b + 256 * v = 2 ^ 8 * v + b from by omega, this, if_pos hi]
theorem tb_hi (b v i : Nat) (hb : b < 256) : (b + 256 * v).testBit (i + 8) = v.testBit i := by
  have := Nat.testBit_two_pow_mul_add v (show b < 2 ^ 8 from hb) (i + 8)
  rw [show b + 256 * v = 2 ^ 8 * v + b from by omega, this, if_neg (by omega)]
  congr 1
theorem tb7 (b : Nat) (hb : b < 256) : b.testBit 7 = decide (128 ≤ b) := by
  rw [Nat.testBit_eq_decide_div_mod_eq]
  by_cases h : 128 ≤ b
  · rw [decide_eq_true h, decide_eq_true]; omega
  · rw [decide_eq_false h, decide_eq_false]; omega

/-- Bit 7 of byte k, where every byte before it is c at least: is byte k below c? -/
theorem flag : ∀ (bs : List Nat) (k c : Nat), 1 ≤ c → c ≤ 128 → (∀ b ∈ bs, b < 256) → (hk : k < bs.length) → (∀ j (hj : j < k), c ≤ bs[j]) →
    ((dif c bs).testBit (8 * k + 7) && !(val bs).testBit (8 * k + 7)) = decide (bs[k] < c)
  | [], k, c, _, _, _, hk, _ => by simp at hk
  | b :: bs, 0, c, h1, h2, hb, _, _ => by
    have b1 := hb b (by simp)
    simp only [Nat.mul_zero, Nat.zero_add, List.getElem_cons_zero]
    have ev : (val (b :: bs)).testBit 7 = decide (128 ≤ b) := by rw [val, tb_lo _ _ _ b1 (by omega), tb7 _ b1]
    rw [ev]
    by_cases h : c ≤ b
    · rw [dif_ge c b bs h2 h, tb_lo _ _ _ (by omega) (by omega), tb7 _ (by omega)]
      by_cases e : 128 ≤ b
      · simp [e]; omega
      · rw [decide_eq_false (show ¬ 128 ≤ b - c by omega), decide_eq_false (show ¬ b < c by omega)]; simp
    · rw [dif_lt c b bs h2 (by omega), tb_lo _ _ _ (by omega) (by omega), tb7 _ (by omega)]
      rw [decide_eq_true (show 128 ≤ b + 256 - c by omega), decide_eq_false (show ¬ 128 ≤ b by omega), decide_eq_true (show b < c by omega)]; simp
  | b :: bs, k + 1, c, h1, h2, hb, hk, hj => by
    have b1 := hb b (by simp)
    have h0 : c ≤ b := by simpa using hj 0 (by omega)
    have ih := flag bs k c h1 h2 (fun x hx => hb x (by simp [hx])) (by simpa using hk) (fun j hj' => by simpa using hj (j + 1) (by omega))
    simp only [List.getElem_cons_succ]
    rw [← ih, dif_ge c b bs h2 h0, val, show 8 * (k + 1) + 7 = (8 * k + 7) + 8 from by omega, tb_hi _ _ _ (by omega), tb_hi _ _ _ b1]

theorem val_lt : ∀ (bs : List Nat), (∀ b ∈ bs, b < 256) → val bs < 256 ^ bs.length
  | [], _ => by simp [val]
  | b :: bs, h => by
    have h1 := val_lt bs (fun x hx => h x (by simp [hx]))
    have h2 := h b (by simp)
    simp only [val, List.length_cons, Nat.pow_succ]
    omega

theorem xor_byte (b v q u : Nat) (hb : b < 256) (hq : q < 256) : (b + 256 * v) ^^^ (q + 256 * u) = (b ^^^ q) + 256 * (v ^^^ u) := by
  have hx : b ^^^ q < 256 := Nat.xor_lt_two_pow (n := 8) hb hq
  apply Nat.eq_of_testBit_eq
  intro i
  by_cases h : i < 8
  · rw [Nat.testBit_xor, tb_lo _ _ _ hb h, tb_lo _ _ _ hq h, tb_lo _ _ _ hx h, Nat.testBit_xor]
  · obtain ⟨j, rfl⟩ : ∃ j, i = j + 8 := ⟨i - 8, by omega⟩
    rw [Nat.testBit_xor, tb_hi _ _ _ hb, tb_hi _ _ _ hq, tb_hi _ _ _ hx, Nat.testBit_xor]

theorem val_xor : ∀ (bs : List Nat) (q : Nat), q < 256 → (∀ b ∈ bs, b < 256) → val bs ^^^ (ones bs.length * q) = val (bs.map (· ^^^ q))
  | [], q, _, _ => by simp [val, ones]
  | b :: bs, q, hq, h => by
    have ih := val_xor bs q hq (fun x hx => h x (by simp [hx]))
    simp only [val, List.length_cons, ones, List.map_cons]
    rw [← ih, ← xor_byte b (val bs) q (ones bs.length * q) (h b (by simp)) hq]
    congr 1
    simp only [Nat.add_mul, Nat.one_mul, Nat.mul_assoc]

theorem xor_zero_iff (b q : Nat) : b ^^^ q = 0 ↔ b = q := by
  constructor
  · intro h
    have : (b ^^^ q) ^^^ q = 0 ^^^ q := by rw [h]
    rwa [Nat.xor_assoc, Nat.xor_self, Nat.xor_zero, Nat.zero_xor] at this
  · rintro rfl; exact Nat.xor_self _

/-- zeroBytes (c = 1), bytesBelow: the word as Go reckons it. -/
def zB (c x : Nat) : Nat := (((x + 18446744073709551616 - 72340172838076673 * c) % 18446744073709551616) &&& (18446744073709551615 - x)) &&& 9259542123273814144
def hi8 : Nat := 9259542123273814144

theorem hi_bit : ∀ i, i < 64 → (9259542123273814144 : Nat).testBit i = decide (i % 8 = 7) := by decide

theorem zB_bit (c : Nat) (bs : List Nat) (hlen : bs.length = 8) (hb : ∀ b ∈ bs, b < 256) (i : Nat) (hi : i < 64) :
    (zB c (val bs)).testBit i = (((dif c bs).testBit i && !(val bs).testBit i) && decide (i % 8 = 7)) := by
  have hv := val_lt bs hb
  rw [hlen] at hv
  have hv' : val bs < 2 ^ 64 := hv
  have e2 : 18446744073709551615 - val bs = 2 ^ 64 - (val bs + 1) := by
    have : (2 : Nat) ^ 64 = 18446744073709551616 := by decide
    omega
  have e1 : dif c bs = val bs + 18446744073709551616 - 72340172838076673 * c := by
    simp only [dif, hlen]
    rfl
  unfold zB
  rw [Nat.testBit_and, Nat.testBit_and, hi_bit i hi, e2, Nat.testBit_two_pow_sub_succ hv', ← e1]
  rw [show (18446744073709551616 : Nat) = 2 ^ 64 from by decide, Nat.testBit_mod_two_pow]
  simp [hi]

theorem zB_lt (c x : Nat) : zB c x < 18446744073709551616 := by
  unfold zB
  exact Nat.and_lt_two_pow (n := 64) _ (by decide)

/-- A byte at which a run of a string's plain bytes ends. -/
def stopN (b : Nat) : Bool := b == 34 || b == 92 || decide (b < 32)

def stopW (x : Nat) : Nat := (zB 1 (x ^^^ 2459565876494606882) ||| zB 1 (x ^^^ 6655295901103053916)) ||| zB 32 x

theorem stopW_bit (bs : List Nat) (hlen : bs.length = 8) (hb : ∀ b ∈ bs, b < 256) (k : Nat) (hk : k < 8) (hno : ∀ j (hj : j < k), stopN (bs[j]'(by omega)) = false) :
    (stopW (val bs)).testBit (8 * k + 7) = stopN (bs[k]'(by omega)) := by
  have x1 : val bs ^^^ 2459565876494606882 = val (bs.map (· ^^^ 34)) := by
    have := val_xor bs 34 (by decide) hb
    rw [hlen] at this
    exact this
  have x2 : val bs ^^^ 6655295901103053916 = val (bs.map (· ^^^ 92)) := by
    have := val_xor bs 92 (by decide) hb
    rw [hlen] at this
    exact this
  have hm : ∀ q, q < 256 → ∀ b ∈ bs.map (· ^^^ q), b < 256 := by
    intro q hq b hbm
    obtain ⟨a, ha, rfl⟩ := List.mem_map.1 hbm
    exact Nat.xor_lt_two_pow (n := 8) (hb a ha) hq
  have hno' : ∀ j (hj : j < k), (bs[j]'(by omega)) ≠ 34 ∧ (bs[j]'(by omega)) ≠ 92 ∧ 32 ≤ (bs[j]'(by omega)) := by
    intro j hj
    have := hno j hj
    simp [stopN] at this
    omega
  have m7 : (8 * k + 7) % 8 = 7 := by omega
  have f1 := flag (bs.map (· ^^^ 34)) k 1 (by omega) (by omega) (hm 34 (by decide)) (by simp; omega) (fun j hj => by
    have h1 := (hno' j hj).1
    have h2 : ¬ ((bs[j]'(by omega)) ^^^ 34 = 0) := fun e => h1 ((xor_zero_iff _ _).1 e)
    simp only [List.getElem_map]; omega)
  have f2 := flag (bs.map (· ^^^ 92)) k 1 (by omega) (by omega) (hm 92 (by decide)) (by simp; omega) (fun j hj => by
    have h1 := (hno' j hj).2.1
    have h2 : ¬ ((bs[j]'(by omega)) ^^^ 92 = 0) := fun e => h1 ((xor_zero_iff _ _).1 e)
    simp only [List.getElem_map]; omega)
  have f3 := flag bs k 32 (by omega) (by omega) hb (by omega) (fun j hj => (hno' j hj).2.2)
  unfold stopW
  rw [Nat.testBit_or, Nat.testBit_or, x1, x2, zB_bit 1 _ (by simp [hlen]) (hm 34 (by decide)) _ (by omega), zB_bit 1 _ (by simp [hlen]) (hm 92 (by decide)) _ (by omega), zB_bit 32 bs hlen hb _ (by omega), f1, f2, f3, m7]
  simp only [List.getElem_map, decide_true, Bool.and_true, stopN]
  rw [Bool.eq_iff_iff]
  have z1 := xor_zero_iff (bs[k]'(by omega)) 34
  have z2 := xor_zero_iff (bs[k]'(by omega)) 92
  simp
  rw [z1, z2]

theorem stopW_off (bs : List Nat) (hlen : bs.length = 8) (hb : ∀ b ∈ bs, b < 256) (i : Nat) (hi : i < 64) (h7 : i % 8 ≠ 7) : (stopW (val bs)).testBit i = false := by
  have x1 : val bs ^^^ 2459565876494606882 = val (bs.map (· ^^^ 34)) := by
    have := val_xor bs 34 (by decide) hb
    rw [hlen] at this
    exact this
  have x2 : val bs ^^^ 6655295901103053916 = val (bs.map (· ^^^ 92)) := by
    have := val_xor bs 92 (by decide) hb
    rw [hlen] at this
    exact this
  have hm : ∀ q, q < 256 → ∀ b ∈ bs.map (· ^^^ q), b < 256 := by
    intro q hq b hbm
    obtain ⟨a, ha, rfl⟩ := List.mem_map.1 hbm
    exact Nat.xor_lt_two_pow (n := 8) (hb a ha) hq
  unfold stopW
  rw [Nat.testBit_or, Nat.testBit_or, x1, x2, zB_bit 1 _ (by simp [hlen]) (hm 34 (by decide)) _ hi, zB_bit 1 _ (by simp [hlen]) (hm 92 (by decide)) _ hi, zB_bit 32 bs hlen hb _ hi]
  simp [h7]

theorem stopW_lt (x : Nat) : stopW x < 18446744073709551616 := by
  unfold stopW
  exact Nat.or_lt_two_pow (n := 64) (Nat.or_lt_two_pow (n := 64) (zB_lt _ _) (zB_lt _ _)) (zB_lt _ _)

theorem ctzFrom_of : ∀ (f t x : Nat), t < f → (∀ i, i < t → x.testBit i = false) → x.testBit t = true → Lib.ctzFrom f x = t
  | 0, t, x, h, _, _ => by omega
  | f + 1, 0, x, _, _, ht => by
    rw [Nat.testBit_zero] at ht
    simp at ht
    simp [Lib.ctzFrom, ht]
  | f + 1, t + 1, x, h, hlo, ht => by
    have h0 := hlo 0 (by omega)
    rw [Nat.testBit_zero] at h0
    simp at h0
    have := ctzFrom_of f t (x / 2) (by omega) (fun i hi => by rw [← Nat.testBit_succ]; exact hlo (i + 1) (by omega)) (by rw [← Nat.testBit_succ]; exact ht)
    simp [Lib.ctzFrom, h0, this]
    omega

/-- THE FIRST STOP AT BYTE m. -/
theorem stopW_first (bs : List Nat) (hlen : bs.length = 8) (hb : ∀ b ∈ bs, b < 256) (m : Nat) (hm : m < 8) (hno : ∀ j (hj : j < m), stopN (bs[j]'(by omega)) = false) (hyes : stopN (bs[m]'(by omega)) = true) :
    stopW (val bs) ≠ 0 ∧ Lib.ctz 64 (stopW (val bs)) = 8 * m + 7 := by
  have hbit : (stopW (val bs)).testBit (8 * m + 7) = true := by rw [stopW_bit bs hlen hb m hm hno, hyes]
  have hne : stopW (val bs) ≠ 0 := by
    intro h
    rw [h] at hbit
    simp at hbit
  refine ⟨hne, ?_⟩
  rw [Lib.ctz, if_neg hne]
  refine ctzFrom_of 64 _ _ (by omega) (fun i hi => ?_) hbit
  by_cases h7 : i % 8 = 7
  · have hk : i / 8 < m := by omega
    have e : i = 8 * (i / 8) + 7 := by omega
    rw [e, stopW_bit bs hlen hb (i / 8) (by omega) (fun j hj => hno j (by omega))]
    exact hno _ hk
  · exact stopW_off bs hlen hb i (by omega) h7

/-- NO STOP AMONG THE EIGHT. -/
theorem stopW_none (bs : List Nat) (hlen : bs.length = 8) (hb : ∀ b ∈ bs, b < 256) (hno : ∀ j (hj : j < 8), stopN (bs[j]'(by omega)) = false) : stopW (val bs) = 0 := by
  apply Nat.eq_of_testBit_eq
  intro i
  rw [Nat.zero_testBit]
  by_cases hi : i < 64
  · by_cases h7 : i % 8 = 7
    · have e : i = 8 * (i / 8) + 7 := by omega
      rw [e, stopW_bit bs hlen hb (i / 8) (by omega) (fun j hj => hno j (by omega))]
      exact hno _ (by omega)
    · exact stopW_off bs hlen hb i hi h7
  · exact Nat.testBit_lt_two_pow (Nat.lt_of_lt_of_le (stopW_lt _) (show 2 ^ 64 ≤ 2 ^ i from Nat.pow_le_pow_right (by decide) (by omega)))

end Go.Proofs.Qxb6616667aDoor.Pl
