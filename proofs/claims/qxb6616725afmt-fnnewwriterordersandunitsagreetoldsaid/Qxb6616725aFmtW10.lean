/-
  zzGet32, zzGet16, zzMirrored.
-/
import Derived.Test.Qxb6616725aFmtW4
import Derived.Lib.EndianBits
namespace Go.Proofs.Qxb6616725aFmt
open Go.RowKit
set_option linter.unusedVariables false

theorem Fr.drewN {S : List Nat} {a w : World} (h : Fr S a w) (n : Nat) : Fr S a (w.drewN n) := ⟨h.os, h.tape, h.output, h.size, h.block⟩
theorem or_hi (i : Nat) (x y : Int) (hx0 : 0 ≤ x) (hx : x % 2 ^ i = 0) (hx1 : x < 2 ^ 32) (hy0 : 0 ≤ y) (hy : y < 2 ^ i) (hy1 : y < 2 ^ 32) : bits .or .u32 x y = x + y := bits_join .u32 32 (by decide) wraps_u32 i x y hx0 hx hx1 hy0 hy hy1
theorem join_be (v : Int) (h0 : 0 ≤ v) (h1 : v < 4294967296) : bits .or .u32 (bits .or .u32 (bits .or .u32 (v / 16777216 * 16777216) (v / 65536 % 256 * 65536)) (v / 256 % 256 * 256)) (v % 256) = v := by
  have e1 := or_hi 24 (v / 16777216 * 16777216) (v / 65536 % 256 * 65536) (by omega) (by omega) (by omega) (by omega) (by omega) (by omega)
  rw [e1]
  have e2 := or_hi 16 (v / 16777216 * 16777216 + v / 65536 % 256 * 65536) (v / 256 % 256 * 256) (by omega) (by omega) (by omega) (by omega) (by omega) (by omega)
  rw [e2]
  have e3 := or_hi 8 (v / 16777216 * 16777216 + v / 65536 % 256 * 65536 + v / 256 % 256 * 256) (v % 256) (by omega) (by omega) (by omega) (by omega) (by omega) (by omega)
  rw [e3]
  omega
theorem join_le (v : Int) (h0 : 0 ≤ v) (h1 : v < 4294967296) : bits .or .u32 (bits .or .u32 (bits .or .u32 (v % 256) (v / 256 % 256 * 256)) (v / 65536 % 256 * 65536)) (v / 16777216 * 16777216) = v := by
  have e1 := u32_or8 (v % 256) (v / 256 % 256 * 256) (by omega) (by omega) (by omega) (by omega) (by omega)
  rw [e1]
  have e2 := u32_or16 (v % 256 + v / 256 % 256 * 256) (v / 65536 % 256 * 65536) (by omega) (by omega) (by omega) (by omega) (by omega)
  rw [e2]
  have e3 := u32_or24 (v % 256 + v / 256 % 256 * 256 + v / 65536 % 256 * 65536) (v / 16777216 * 16777216) (by omega) (by omega) (by omega) (by omega) (by omega)
  rw [e3]
  omega
theorem join_be16 (v : Int) (h0 : 0 ≤ v) (h1 : v < 65536) : bits .or .u16 (v / 256 * 256) (v % 256) = v := by
  rw [bits_join .u16 16 (by decide) wraps_u16 8 _ _ (by omega) (by omega) (by omega) (by omega) (by omega) (by omega)]
  omega

set_option maxRecDepth 100000 in
set_option maxHeartbeats 2000000 in
theorem f14_be (g n c o : Nat) (v : Int) (w : World) (v0 : 0 ≤ v) (v1 : v < 4294967296) (h0 : w.cell? ⟨g, o, none⟩ = some (.int .u8 (v / 16777216))) (h1 : w.cell? ⟨g, o + 1, none⟩ = some (.int .u8 (v / 65536 % 256))) (h2 : w.cell? ⟨g, o + 2, none⟩ = some (.int .u8 (v / 256 % 256))) (h3 : w.cell? ⟨g, o + 3, none⟩ = some (.int .u8 (v % 256)))
    (ho : o + 4 ≤ n) (hn : n ≤ 1000) :
    Calls Tryf.prog 14 #[.slice (some ⟨g, 0, none⟩) n c, .int .i64 o, .bool true] w fun e w' => e = .returned (.int .u32 v) ∧ Fr [] w w' := by
  have J := hide (join_be v v0 v1)
  have q0 : (o : Int) < (n : Int) := by omega
  have q1 : (o : Int) + 1 < (n : Int) := by omega
  have q2 : (o : Int) + 2 < (n : Int) := by omega
  have q3 : (o : Int) + 3 < (n : Int) := by omega
  have t1 : ((o : Int) + 1).toNat = o + 1 := by omega
  have t2 : ((o : Int) + 2).toNat = o + 2 := by omega
  have t3 : ((o : Int) + 3).toNat = o + 3 := by omega
  have x1 : IntKind.i64.wrap ((o : Int) + 1) = (o : Int) + 1 := by rw [IntKind.wrap_i64]; omega
  have x2 : IntKind.i64.wrap ((o : Int) + 2) = (o : Int) + 2 := by rw [IntKind.wrap_i64]; omega
  have x3 : IntKind.i64.wrap ((o : Int) + 3) = (o : Int) + 3 := by rw [IntKind.wrap_i64]; omega
  obtain ⟨b0, hb0⟩ : ∃ b, b = v / 16777216 := ⟨_, rfl⟩
  obtain ⟨b1, hb1⟩ : ∃ b, b = v / 65536 % 256 := ⟨_, rfl⟩
  obtain ⟨b2, hb2⟩ : ∃ b, b = v / 256 % 256 := ⟨_, rfl⟩
  obtain ⟨b3, hb3⟩ : ∃ b, b = v % 256 := ⟨_, rfl⟩
  have l0 : 0 ≤ b0 := by omega
  have u0 : b0 < 256 := by omega
  have l1 : 0 ≤ b1 := by omega
  have u1 : b1 < 256 := by omega
  have l2 : 0 ≤ b2 := by omega
  have u2 : b2 < 256 := by omega
  have l3 : 0 ≤ b3 := by omega
  have u3 : b3 < 256 := by omega
  rw [← hb0] at h0
  rw [← hb1] at h1
  rw [← hb2] at h2
  rw [← hb3] at h3
  have HB0 := hide hb0
  have HB1 := hide hb1
  have HB2 := hide hb2
  have HB3 := hide hb3
  clear hb0 hb1 hb2 hb3 v0 v1
  go_enter Tryf.func14, Tryf.ntmps14
  go_wp2_with fail
  go_quiet (fail)
  go_wp2_with fail
  go_ret
  refine ⟨?_, (Fr.refl [] w).drewN _⟩
  have j := J.out
  rw [← HB0.out, ← HB1.out, ← HB2.out, ← HB3.out] at j
  show Ending.returned (.int .u32 _) = _
  rw [j]

set_option maxRecDepth 100000 in
set_option maxHeartbeats 2000000 in
theorem f14_le (g n c o : Nat) (v : Int) (w : World) (v0 : 0 ≤ v) (v1 : v < 4294967296) (h0 : w.cell? ⟨g, o, none⟩ = some (.int .u8 (v % 256))) (h1 : w.cell? ⟨g, o + 1, none⟩ = some (.int .u8 (v / 256 % 256))) (h2 : w.cell? ⟨g, o + 2, none⟩ = some (.int .u8 (v / 65536 % 256))) (h3 : w.cell? ⟨g, o + 3, none⟩ = some (.int .u8 (v / 16777216)))
    (ho : o + 4 ≤ n) (hn : n ≤ 1000) :
    Calls Tryf.prog 14 #[.slice (some ⟨g, 0, none⟩) n c, .int .i64 o, .bool false] w fun e w' => e = .returned (.int .u32 v) ∧ Fr [] w w' := by
  have J := hide (join_le v v0 v1)
  have q0 : (o : Int) < (n : Int) := by omega
  have q1 : (o : Int) + 1 < (n : Int) := by omega
  have q2 : (o : Int) + 2 < (n : Int) := by omega
  have q3 : (o : Int) + 3 < (n : Int) := by omega
  have t1 : ((o : Int) + 1).toNat = o + 1 := by omega
  have t2 : ((o : Int) + 2).toNat = o + 2 := by omega
  have t3 : ((o : Int) + 3).toNat = o + 3 := by omega
  have x1 : IntKind.i64.wrap ((o : Int) + 1) = (o : Int) + 1 := by rw [IntKind.wrap_i64]; omega
  have x2 : IntKind.i64.wrap ((o : Int) + 2) = (o : Int) + 2 := by rw [IntKind.wrap_i64]; omega
  have x3 : IntKind.i64.wrap ((o : Int) + 3) = (o : Int) + 3 := by rw [IntKind.wrap_i64]; omega
  obtain ⟨b0, hb0⟩ : ∃ b, b = v % 256 := ⟨_, rfl⟩
  obtain ⟨b1, hb1⟩ : ∃ b, b = v / 256 % 256 := ⟨_, rfl⟩
  obtain ⟨b2, hb2⟩ : ∃ b, b = v / 65536 % 256 := ⟨_, rfl⟩
  obtain ⟨b3, hb3⟩ : ∃ b, b = v / 16777216 := ⟨_, rfl⟩
  have l0 : 0 ≤ b0 := by omega
  have u0 : b0 < 256 := by omega
  have l1 : 0 ≤ b1 := by omega
  have u1 : b1 < 256 := by omega
  have l2 : 0 ≤ b2 := by omega
  have u2 : b2 < 256 := by omega
  have l3 : 0 ≤ b3 := by omega
  have u3 : b3 < 256 := by omega
  rw [← hb0] at h0
  rw [← hb1] at h1
  rw [← hb2] at h2
  rw [← hb3] at h3
  have HB0 := hide hb0
  have HB1 := hide hb1
  have HB2 := hide hb2
  have HB3 := hide hb3
  clear hb0 hb1 hb2 hb3 v0 v1
  go_enter Tryf.func14, Tryf.ntmps14
  go_wp2_with fail
  go_quiet (fail)
  go_wp2_with fail
  go_ret
  refine ⟨?_, (Fr.refl [] w).drewN _⟩
  have j := J.out
  rw [← HB0.out, ← HB1.out, ← HB2.out, ← HB3.out] at j
  show Ending.returned (.int .u32 _) = _
  rw [j]

set_option maxRecDepth 100000 in
set_option maxHeartbeats 2000000 in
theorem f15_be (g n c o : Nat) (v : Int) (w : World) (v0 : 0 ≤ v) (v1 : v < 65536) (h0 : w.cell? ⟨g, o, none⟩ = some (.int .u8 (v / 256))) (h1 : w.cell? ⟨g, o + 1, none⟩ = some (.int .u8 (v % 256)))
    (ho : o + 2 ≤ n) (hn : n ≤ 1000) :
    Calls Tryf.prog 15 #[.slice (some ⟨g, 0, none⟩) n c, .int .i64 o, .bool true] w fun e w' => e = .returned (.int .u16 v) ∧ Fr [] w w' := by
  have J := hide (join_be16 v v0 v1)
  have q0 : (o : Int) < (n : Int) := by omega
  have q1 : (o : Int) + 1 < (n : Int) := by omega
  have t1 : ((o : Int) + 1).toNat = o + 1 := by omega
  have x1 : IntKind.i64.wrap ((o : Int) + 1) = (o : Int) + 1 := by rw [IntKind.wrap_i64]; omega
  obtain ⟨b0, hb0⟩ : ∃ b, b = v / 256 := ⟨_, rfl⟩
  obtain ⟨b1, hb1⟩ : ∃ b, b = v % 256 := ⟨_, rfl⟩
  have l0 : 0 ≤ b0 := by omega
  have u0 : b0 < 256 := by omega
  have l1 : 0 ≤ b1 := by omega
  have u1 : b1 < 256 := by omega
  rw [← hb0] at h0
  rw [← hb1] at h1
  have HB0 := hide hb0
  have HB1 := hide hb1
  clear hb0 hb1 v0 v1
  go_enter Tryf.func15, Tryf.ntmps15
  go_wp2_with fail
  go_quiet (fail)
  go_wp2_with fail
  go_ret
  refine ⟨?_, (Fr.refl [] w).drewN _⟩
  have j := J.out
  rw [← HB0.out, ← HB1.out] at j
  show Ending.returned (.int .u16 _) = _
  rw [j]

end Go.Proofs.Qxb6616725aFmt
