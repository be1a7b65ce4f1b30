/-
  The refusal roads: fmt.Errorf.
-/
import Derived.Test.Qxb6616725aFmtW5
import Derived.Stop.FmtLaws
import Derived.Stop.Texts
import Derived.Stop.IfaceNil
namespace Go.Proofs.Qxb6616725aFmt
open Go.RowKit Go.Extern.Stop Go.Stop Go.Extern
set_option linter.unusedVariables false

theorem call38 (args : Array Value) (w : World) : (callFunc 38 args).run Tryf.prog w = ((FmtStop.errorf #[9, 95] #[31] args).run Tryf.prog w).andThen fun v w' => .ok (.value v) w' :=
  run_callFunc_extern Tryf.func38 (by kernel_rfl) (by kernel_rfl) (by kernel_rfl) (by kernel_rfl) args w
theorem guard (name : String) (w : World) : (FmtStop.guard name).run Tryf.prog w = .ok () w := by kernel_rfl
theorem fmtA : FmtStop.printed? ⟨#[112, 99, 97, 112, 58, 32, 114, 101, 99, 111, 114, 100, 32, 111, 102, 32, 37, 100, 32, 111, 99, 116, 101, 116, 115, 44, 32, 109, 111, 114, 101, 32, 116, 104, 97, 110, 32, 37, 100]⟩ 2 = some [(0, 100, false), (1, 100, false)] := by kernel_rfl
theorem fmtAr (w : World) : (FmtDoors.printed ⟨#[112, 99, 97, 112, 58, 32, 114, 101, 99, 111, 114, 100, 32, 111, 102, 32, 37, 100, 32, 111, 99, 116, 101, 116, 115, 44, 32, 109, 111, 114, 101, 32, 116, 104, 97, 110, 32, 37, 100]⟩ 2).run Tryf.prog w = .ok [(0, 100, false), (1, 100, false)] w := by kernel_rfl
theorem ptr99 (w : World) : (FmtStop.ptrTo "errors.errorString").run Tryf.prog w = .ok 99 w := by kernel_rfl
theorem elem99 (w : World) : (elemOf 99).run Tryf.prog w = .ok 101 w := by kernel_rfl
def shapeU64 : List UInt8 := [9, 6, 0, 0, 0, 0, 0, 0, 0, 117, 105, 110, 116, 54, 52]
def shapeInt : List UInt8 := [5, 3, 0, 0, 0, 0, 0, 0, 0, 105, 110, 116]
theorem op69 (name : String) (x : Int) (w : World) : (FmtStop.operand name true 100 false (.iface 69 (.int .u64 x))).run Tryf.prog w = .ok (shapeU64, Go.Extern.Stop.digits 8 (x % 2 ^ 64).toNat) w := by kernel_rfl
theorem op3 (name : String) (x : Int) (w : World) : (FmtStop.operand name true 100 false (.iface 3 (.int .i64 x))).run Tryf.prog w = .ok (shapeInt, Go.Extern.Stop.digits 8 (x % 2 ^ 64).toNat) w := by kernel_rfl
attribute [local go_sem] call38 guard fmtA fmtAr ptr99 elem99 op69 op3

set_option maxRecDepth 100000 in
set_option maxHeartbeats 1000000 in
theorem f34a (F : Interp) (x : Int) (blk : Nat) (w : World) (hF : F.answers w.tape)
    (hc0 : w.cell? ⟨blk, 0, none⟩ = some (.iface 69 (.int .u64 x))) (hc1 : w.cell? ⟨blk, 1, none⟩ = some (.iface 3 (.int .i64 262144))) :
    Calls Tryf.prog 34 #[.string ⟨#[112, 99, 97, 112, 58, 32, 114, 101, 99, 111, 114, 100, 32, 111, 102, 32, 37, 100, 32, 111, 99, 116, 101, 116, 115, 44, 32, 109, 111, 114, 101, 32, 116, 104, 97, 110, 32, 37, 100]⟩, .slice (some ⟨blk, 0, none⟩) 2 2] w fun e w' =>
      ∃ t p, e = .returned (.iface t p) ∧ Below w.heap.size w w' := by
  have hF' : ∀ i name reading k range, w.tape i (.extern (word name reading k) range) = F name reading k := hF
  go_enter Tryf.func34, Tryf.ntmps34
  go_wp2
  go_ret
  exact ⟨_, _, rfl, ((Below.refl _ w).alloc (Nat.le_refl _) _).drew⟩

abbrev fB : ByteArray := ⟨([112, 99, 97, 112, 58, 32, 114, 101, 99, 111, 114, 100, 32, 111, 102, 32, 37, 100, 32, 111, 99, 116, 101, 116, 115, 44, 32, 109, 111, 114, 101, 32, 116, 104, 97, 110, 32, 116, 104, 101, 32, 83, 110, 97, 112, 76, 101].append [110, 32, 111, 102, 32, 37, 100, 44, 32, 97, 110, 100, 32, 116, 104, 101, 32, 102, 105, 108, 101, 32, 104, 101, 97, 100, 101, 114, 32, 99, 97, 110, 110, 111, 116, 32, 98, 101, 32, 114, 101, 119, 114, 105, 116, 116, 101, 110]).toArray⟩
theorem fmtB : FmtStop.printed? fB 2 = some [(0, 100, false), (1, 100, false)] := by kernel_rfl
theorem fmtBr (w : World) : (FmtDoors.printed fB 2).run Tryf.prog w = .ok [(0, 100, false), (1, 100, false)] w := by kernel_rfl
def shapeU32 : List UInt8 := [8, 6, 0, 0, 0, 0, 0, 0, 0, 117, 105, 110, 116, 51, 50]
theorem op22 (name : String) (x : Int) (w : World) : (FmtStop.operand name true 100 false (.iface 22 (.int .u32 x))).run Tryf.prog w = .ok (shapeU32, Go.Extern.Stop.digits 8 (x % 2 ^ 64).toNat) w := by kernel_rfl
attribute [local go_sem] fmtB fmtBr op22

set_option maxRecDepth 100000 in
set_option maxHeartbeats 1000000 in
theorem f34b (F : Interp) (x y : Int) (blk : Nat) (w : World) (hF : F.answers w.tape)
    (hc0 : w.cell? ⟨blk, 0, none⟩ = some (.iface 22 (.int .u32 x))) (hc1 : w.cell? ⟨blk, 1, none⟩ = some (.iface 22 (.int .u32 y))) :
    Calls Tryf.prog 34 #[.string fB, .slice (some ⟨blk, 0, none⟩) 2 2] w fun e w' =>
      ∃ t p, e = .returned (.iface t p) ∧ Below w.heap.size w w' := by
  have hF' : ∀ i name reading k range, w.tape i (.extern (word name reading k) range) = F name reading k := hF
  go_enter Tryf.func34, Tryf.ntmps34
  go_wp2
  go_ret
  exact ⟨_, _, rfl, ((Below.refl _ w).alloc (Nat.le_refl _) _).drew⟩

set_option maxRecDepth 100000 in
set_option maxHeartbeats 1000000 in
theorem f30 (F : Interp) (x : Int) (w : World) (hF : F.answers w.tape) :
    Calls Tryf.prog 30 #[.int .u64 x] w fun e w' => ∃ t p, e = .returned (.iface t p) ∧ Below w.heap.size w w' := by
  have HP := hide (f34a F x w.heap.size (w.alloc (.cells #[.iface 69 (.int .u64 x), .iface 3 (.int .i64 262144)] 20)) hF (by simp) (by simp))
  go_enter Tryf.func30, Tryf.ntmps30
  go_wp2_with fail
  refine HP.out.mono ?_
  rintro e w1 ⟨t, p, rfl, hb⟩
  have hbg := ((Below.refl w.heap.size w).alloc (Nat.le_refl _) (.cells #[.iface 69 (.int .u64 x), .iface 3 (.int .i64 262144)] 20)).trans (hb.mono (by simp))
  clear hb
  go_wp2_with fail
  go_ret
  exact ⟨t, p, rfl, hbg⟩

set_option maxRecDepth 100000 in
set_option maxHeartbeats 1000000 in
theorem f31 (F : Interp) (pw bw : Nat) (ord : Value) (snap n : Int) (w : World) (hF : F.answers w.tape) (h : Pw w pw bw ord snap) :
    Calls Tryf.prog 31 #[.pointer (some ⟨pw, 0, none⟩), .int .u32 n] w fun e w' => ∃ t p, e = .returned (.iface t p) ∧ Below w.heap.size w w' := by
  have c1 : w.cell? ⟨pw, 1, none⟩ = some .nilIface := by rw [cell_of_row w _ _ _ _ _ h]; rfl
  have c4 : w.cell? ⟨pw, 4, none⟩ = some (.int .u32 snap) := by rw [cell_of_row w _ _ _ _ _ h]; rfl
  have HP := hide (f34b F n snap w.heap.size (w.alloc (.cells #[.iface 22 (.int .u32 n), .iface 22 (.int .u32 snap)] 20)) hF (by simp) (by simp))
  clear h
  go_enter Tryf.func31, Tryf.ntmps31
  go_wp2_with fail
  refine HP.out.mono ?_
  rintro e w1 ⟨t, p, rfl, hb⟩
  have hbg := ((Below.refl w.heap.size w).alloc (Nat.le_refl _) (.cells #[.iface 22 (.int .u32 n), .iface 22 (.int .u32 snap)] 20)).trans (hb.mono (by simp))
  clear hb
  go_wp2_with fail
  go_ret
  exact ⟨t, p, rfl, hbg⟩
end Go.Proofs.Qxb6616725aFmt
