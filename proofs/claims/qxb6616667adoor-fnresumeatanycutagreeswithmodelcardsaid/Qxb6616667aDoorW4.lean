/-
  THE WALKS, 4: stringStop.
-/
import Derived.Test.Qxb6616667aDoorW3
namespace Go.Proofs.Qxb6616667aDoor
open Go.RowKit

theorem word_eqs (x : Nat) (hx : x < 18446744073709551616) : ∃ x1 x2 y : Nat, x1 < 18446744073709551616 ∧ x2 < 18446744073709551616 ∧
    bits .xor .u64 (x : Int) 2459565876494606882 = (x1 : Int) ∧ bits .xor .u64 (x : Int) 6655295901103053916 = (x2 : Int) ∧
    bits .or .u64 ((Pl.zB 1 x1 : Nat) : Int) ((Pl.zB 1 x2 : Nat) : Int) = (y : Int) ∧ bits .or .u64 (y : Int) ((Pl.zB 32 x : Nat) : Int) = ((Pl.stopW x : Nat) : Int) := by
  have h1 : x ^^^ 2459565876494606882 < 18446744073709551616 := Nat.xor_lt_two_pow (n := 64) hx (by decide)
  have h2 : x ^^^ 6655295901103053916 < 18446744073709551616 := Nat.xor_lt_two_pow (n := 64) hx (by decide)
  refine ⟨x ^^^ 2459565876494606882, x ^^^ 6655295901103053916, Pl.zB 1 (x ^^^ 2459565876494606882) ||| Pl.zB 1 (x ^^^ 6655295901103053916), h1, h2, ?_, ?_, ?_, ?_⟩
  · exact u64_xor_nat x 2459565876494606882 hx (by decide)
  · exact u64_xor_nat x 6655295901103053916 hx (by decide)
  · exact u64_or_nat _ _ (Pl.zB_lt _ _) (Pl.zB_lt _ _)
  · exact u64_or_nat _ _ (Nat.or_lt_two_pow (n := 64) (Pl.zB_lt _ _) (Pl.zB_lt _ _)) (Pl.zB_lt _ _)

set_option maxHeartbeats 400000 in
theorem f23 (B : Nat) (a : Option Addr) (c : Nat) (zs : List Int) (i : Nat) (w : World) (hz : Byt zs) (hcap : zs.length ≤ c) (hlen : zs.length ≤ 1048576) (hi : i ≤ zs.length) (hB : 1 < B) (hBw : B ≤ w.heap.size) (hb : BytesAt B w a zs) (hT : TabAt 1 Lib.deBruijn64tab w) :
    Calls Tryd.prog 23 #[.slice a zs.length c, .int .i64 i, .bool true] w fun e w' => e = .returned (.int .i64 ((stopEnd zs i : Nat) : Int)) ∧ Below w.heap.size w w' := by
  go_enter Tryd.func23, Tryd.ntmps23
  go_wp2_with fail
  go_loopw [1] (fun t wr => ∃ k : Nat, i ≤ k ∧ k ≤ zs.length ∧ t = .int .i64 k ∧ stopEnd zs i = stopEnd zs k ∧ Below w.heap.size w wr) (fun t _ => zs.length - (intOf t).toNat)
  case atStart => exact ⟨i, Nat.le_refl _, hi, rfl, rfl, Below.refl _ _⟩
  case round =>
    obtain ⟨k, hk1, hk2, rfl, hd, hbl⟩ := hrel
    have HD : Hid (stopEnd zs i = stopEnd zs k) := hd
    clear hd
    by_cases hlt : k + 8 ≤ zs.length
    · obtain ⟨b, o, rfl, hbB, hc⟩ := hb.cells (by omega)
      have hcr : ∀ j, j < zs.length → wr.drew.cell? ⟨b, o + j, none⟩ = some (.int .u8 (zs.getD j 0)) := fun j hj => by
        show wr.cell? _ = _
        rw [hbl.cell (p := ⟨b, o + j, none⟩) (by show b < _; omega)]
        exact hc j hj
      have hP := f28 b o (zs.length - k) (c - k) zs k wr.drew (by omega) hlt hz hcr
      have HP := hide hP
      clear hP hcr hc
      have hck : ¬ c = k := by omega
      go_wp2_with fail
      go_region_with (go_at_call 28; refine HP.out.mono ?_; rintro e w1 ⟨rfl, hb1⟩)
      have hsz : wr.drew.heap.size = wr.heap.size := rfl
      rw [hsz] at hb1
      have hbl1 : Below w.heap.size w w1 := hbl.trans (Below.trans (Below.refl _ _ |>.drew) (hb1.mono hbl.size))
      have hT1 : TabAt 1 Lib.deBruijn64tab w1 := fun j hj => by
        rw [hbl1.cell (p := ⟨1, j, none⟩) (by show 1 < _; omega)]
        exact hT j hj
      clear HP hb1 hsz
      have hlaw := word_law zs hz k hlt
      have hx8 : Pl.val (eight zs k) < 18446744073709551616 := by
        have := Pl.val_lt (eight zs k) (eight_byte zs hz k)
        rw [eight_len zs k hlt] at this
        exact this
      generalize Pl.val (eight zs k) = x at hlaw hx8 ⊢
      obtain ⟨x1, x2, y, hx1, hx2, e1, e2, e3, e4⟩ := word_eqs x hx8
      have hS8 := Pl.stopW_lt x
      generalize Pl.stopW x = S at hlaw hS8 e4 ⊢
      have HL := hide hlaw
      clear hlaw
      by_cases hS : S = 0
      · have hS0 : ((S : Int) != 0) = false := by simp [hS]
        have HE := hide (HL.out.1 hS)
        clear hS HL
        go_wp2_with fail
        refine (f29 x1 hx1 _).mono ?_
        rintro e _ ⟨rfl, rfl⟩
        go_wp2_with fail
        refine (f29 x2 hx2 _).mono ?_
        rintro e _ ⟨rfl, rfl⟩
        go_wp2_with fail
        refine (f30 x hx8 _).mono ?_
        rintro e _ ⟨rfl, rfl⟩
        go_wp2_with fail
        go_roundw
        case rel => exact ⟨k + 8, by omega, by omega, by go_num, by rw [HD.out, HE.out], hbl1⟩
        case measure => simp [intOf]; omega
      · have hS0 : ((S : Int) != 0) = true := by simp [hS]
        obtain ⟨h1, h2⟩ := HL.out.2 hS
        have HE := hide h1
        clear HL h1
        go_wp2_with fail
        refine (f29 x1 hx1 _).mono ?_
        rintro e _ ⟨rfl, rfl⟩
        go_wp2_with fail
        refine (f29 x2 hx2 _).mono ?_
        rintro e _ ⟨rfl, rfl⟩
        go_wp2_with fail
        refine (f30 x hx8 _).mono ?_
        rintro e _ ⟨rfl, rfl⟩
        go_wp2_with fail
        refine (Tryd.bits_TrailingZeros64 S hS8 _ (fun _ => hT1)).mono ?_
        rintro e _ ⟨rfl, rfl⟩
        generalize Lib.ctz 64 S = t at h2 HE ⊢
        go_wp2_with fail
        go_ret
        refine ⟨ret_int ?_, hbl1⟩
        rw [HD.out, HE.out]
        omega
    · have hd : decide ((k : Int) + 8 ≤ (zs.length : Int)) = false := decide_eq_false (by omega)
      have hbr : BytesAt B wr a zs := hb.below (hbl.mono hBw)
      clear hb hT
      go_wp2_with fail
      go_loop [1] (fun t => ∃ m : Nat, k ≤ m ∧ m ≤ zs.length ∧ t = .int .i64 m ∧ stopEnd zs k = stopEnd zs m) (fun t => zs.length - (intOf t).toNat)
      case atStart => exact ⟨k, Nat.le_refl _, hk2, rfl, rfl⟩
      case round =>
        obtain ⟨m, hm1, hm2, rfl, hdm⟩ := hrel
        have HM := hide hdm
        clear hdm
        by_cases hltm : m < zs.length
        · obtain ⟨b, o, rfl, hbB, hc⟩ := hbr m hltm
          have hyes : zs[m] = 34 ∨ zs[m] = 92 ∨ zs[m] < 32 → stopEnd zs m = m := fun h => stopEnd_yes zs m hltm (by simp [stopB]; omega)
          have hno : ¬ zs[m] = 34 → ¬ zs[m] = 92 → 32 ≤ zs[m] → stopEnd zs m = stopEnd zs (m + 1) := fun h1 h2 h3 => stopEnd_no zs m hltm (by simp [stopB]; omega)
          have HY := hide hyes
          have HN := hide hno
          clear hyes hno
          go_wp2_with fail
          · go_ret
            exact ⟨ret_int (by rw [HD.out, HM.out, HY.out (Or.inl ‹_›)]), hbl⟩
          · go_ret
            exact ⟨ret_int (by rw [HD.out, HM.out, HY.out (Or.inr (Or.inl ‹_›))]), hbl⟩
          · go_ret
            refine ⟨ret_int ?_, hbl⟩
            rw [HD.out, HM.out, HY.out (by simp_all)]
          · go_round
            case rel => exact ⟨m + 1, by omega, by omega, by go_num, by rw [HM.out]; exact HN.out (by assumption) (by assumption) (by simp_all)⟩
            case measure => simp [intOf]; omega
        · go_wp2_with fail
          go_ret
          exact ⟨ret_int (by rw [HD.out, HM.out, stopEnd_end zs m (by omega)]), hbl⟩

end Go.Proofs.Qxb6616667aDoor
