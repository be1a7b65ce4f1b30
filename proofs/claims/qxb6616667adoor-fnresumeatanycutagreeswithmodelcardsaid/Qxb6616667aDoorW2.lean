/-
  THE WALKS, 2: the word of eight bytes; a run of digits.
-/
import Derived.Test.Qxb6616667aDoorW1
import Derived.Deep.QuietTactic
import Derived.BigQuiet
import Derived.Laws.BitsAllLaws
namespace Go.Proofs.Qxb6616667aDoor
open Go.RowKit

theorem zB_bits (c x : Nat) (K : Int) (hc : c ≤ 128) (hK : K = ((72340172838076673 * c : Nat) : Int)) (hx : x < 18446744073709551616) :
    bits .and .u64 (bits .andNot .u64 (IntKind.u64.wrap ((x : Int) - K)) x) 9259542123273814144 = ((Pl.zB c x : Nat) : Int) := by
  have e1 : IntKind.u64.wrap ((x : Int) - K) = (((x + 18446744073709551616 - 72340172838076673 * c) % 18446744073709551616 : Nat) : Int) := by
    rw [IntKind.wrap_u64, hK]; omega
  rw [e1, u64_andNot_nat _ _ (by omega) hx]
  rw [show (9259542123273814144 : Int) = ((9259542123273814144 : Nat) : Int) from rfl, u64_and_nat _ _ (Nat.and_lt_two_pow (n := 64) _ (by omega)) (by decide)]
  rfl

set_option maxHeartbeats 400000 in
theorem f29 (x : Nat) (hx : x < 18446744073709551616) (w : World) :
    Calls Tryd.prog 29 #[.int .u64 x] w fun e w' => e = .returned (.int .u64 (Pl.zB 1 x : Nat)) ∧ w' = w := by
  go_enter Tryd.func29, Tryd.ntmps29
  go_wp2
  go_ret
  exact ⟨ret_int (zB_bits 1 x _ (by omega) (by omega) hx), rfl⟩

set_option maxHeartbeats 400000 in
theorem f30 (x : Nat) (hx : x < 18446744073709551616) (w : World) :
    Calls Tryd.prog 30 #[.int .u64 x, .int .u8 32] w fun e w' => e = .returned (.int .u64 (Pl.zB 32 x : Nat)) ∧ w' = w := by
  go_enter Tryd.func30, Tryd.ntmps30
  go_wp2
  go_ret
  exact ⟨ret_int (zB_bits 32 x _ (by omega) (by omega) hx), rfl⟩

/-- A slice of bytes in memory: the numbers zs, cell by cell, in a block below B; a nil one, or one whose base is no cell, where zs is empty. -/
def BytesAt (B : Nat) (w : World) (a : Option Addr) (zs : List Int) : Prop := ∀ j, j < zs.length → ∃ b o, a = some ⟨b, o, none⟩ ∧ b < B ∧ w.cell? ⟨b, o + j, none⟩ = some (.int .u8 (zs.getD j 0))
theorem BytesAt.below {B : Nat} {w w' : World} {a : Option Addr} {zs : List Int} (h : BytesAt B w a zs) (hb : Below B w w') : BytesAt B w' a zs := fun j hj => by
  obtain ⟨b, o, e, hB, hc⟩ := h j hj
  exact ⟨b, o, e, hB, by rw [hb.cell (p := ⟨b, o + j, none⟩) hB]; exact hc⟩
theorem BytesAt.cells {B : Nat} {w : World} {a : Option Addr} {zs : List Int} (h : BytesAt B w a zs) (hz : 0 < zs.length) : ∃ b o, a = some ⟨b, o, none⟩ ∧ b < B ∧ ∀ j, j < zs.length → w.cell? ⟨b, o + j, none⟩ = some (.int .u8 (zs.getD j 0)) := by
  obtain ⟨b, o, e, hB, _⟩ := h 0 hz
  refine ⟨b, o, e, hB, fun j hj => ?_⟩
  obtain ⟨b', o', e', _, hc⟩ := h j hj
  rw [e] at e'
  cases e'
  exact hc

/-- How many digits stand at the head. -/
def dig : List Int → Nat
  | [] => 0
  | c :: cs => if Pl.digB c = true then dig cs + 1 else 0
theorem dig_le : ∀ l, dig l ≤ l.length
  | [] => by simp [dig]
  | c :: cs => by have := dig_le cs; simp only [dig]; split <;> simp <;> omega
theorem dig_drop (zs : List Int) (k : Nat) (hk : k < zs.length) : dig (zs.drop k) = if Pl.digB zs[k] = true then dig (zs.drop (k + 1)) + 1 else 0 := by
  rw [List.drop_eq_getElem_cons hk, dig]

/-- A run of digits: digitsEnd. -/
def digEnd (zs : List Int) (i : Nat) : Nat := i + dig (zs.drop i)
theorem digEnd_yes (zs : List Int) (k : Nat) (hk : k < zs.length) (h : Pl.digB zs[k] = true) : digEnd zs k = digEnd zs (k + 1) := by
  unfold digEnd; rw [dig_drop zs k hk, if_pos h]; omega
theorem digEnd_no (zs : List Int) (k : Nat) (hk : k < zs.length) (h : Pl.digB zs[k] = false) : digEnd zs k = k := by
  unfold digEnd; rw [dig_drop zs k hk, if_neg (by simp [h])]; omega
theorem digEnd_end (zs : List Int) (k : Nat) (hk : zs.length ≤ k) : digEnd zs k = k := by
  unfold digEnd; rw [List.drop_eq_nil_of_le hk]; simp [dig]

set_option maxHeartbeats 400000 in
theorem f33 (B : Nat) (a : Option Addr) (c : Nat) (zs : List Int) (i : Nat) (w : World) (hlen : zs.length ≤ 1048576) (hi : i ≤ zs.length) (hb : BytesAt B w a zs) :
    Calls Tryd.prog 33 #[.slice a zs.length c, .int .i64 i] w fun e w' => e = .returned (.int .i64 ((digEnd zs i : Nat) : Int)) ∧ w' = w := by
  go_enter Tryd.func33, Tryd.ntmps33
  go_wp2_with fail
  go_loop [1] (fun t => ∃ k : Nat, i ≤ k ∧ k ≤ zs.length ∧ t = .int .i64 k ∧ digEnd zs i = digEnd zs k) (fun t => zs.length - (intOf t).toNat)
  case atStart => exact ⟨i, Nat.le_refl _, hi, rfl, rfl⟩
  case round =>
    obtain ⟨k, hk1, hk2, rfl, hd⟩ := hrel
    have HD : Hid (digEnd zs i = digEnd zs k) := hd
    clear hd
    by_cases hlt : k < zs.length
    · obtain ⟨b, o, rfl, _, hc⟩ := hb k hlt
      go_wp2_with (go_at_call 34; refine (f34 _ _).mono ?_; rintro e w' ⟨rfl, rfl⟩)
      · go_round
        case rel => exact ⟨k + 1, by omega, by omega, by go_num, by rw [HD.out]; exact digEnd_yes zs k hlt ‹_›⟩
        case measure => simp [intOf]; omega
      · go_ret
        exact ⟨ret_int (by rw [HD.out, digEnd_no zs k hlt ‹_›]), rfl⟩
    · have hd : decide ((k : Int) < (zs.length : Int)) = false := decide_eq_false (by omega)
      go_wp2_with (go_at_call 34; refine (f34 _ _).mono ?_; rintro e w' ⟨rfl, rfl⟩)
      go_ret
      exact ⟨ret_int (by rw [HD.out, digEnd_end zs k (by omega)]), rfl⟩

end Go.Proofs.Qxb6616667aDoor
