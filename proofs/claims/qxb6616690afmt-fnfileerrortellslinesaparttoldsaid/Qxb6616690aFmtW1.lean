/-
  THE WALKS, 1: what fmt.Sprintf is asked (closed facts), and (*FileError).Error.
-/
import Derived.Test.Qxb6616690aFmtRows
import Derived.WalkKit
import Derived.WalkSpells
import Derived.WalkLawsBesides
import Derived.Stop.CallBack
import Derived.Stop.IfaceNil
import Derived.Stop.Texts
import Derived.Deep.RegionWith
import GoSem.ClaimData
namespace Go.Proofs.Qxb6616690aFmt
open Go.RowKit Go.Extern.Stop Go.Stop Go.Extern
set_option linter.unusedVariables false

theorem hide {p : Prop} (h : p) : Hid p := h
theorem call10 (args : Array Value) (w : World) : (callFunc 10 args).run Tryf.prog w = (FmtCalls.sprintf #[9, 51] #[9] args).run Tryf.prog w :=
  run_callFunc_next Tryf.func10 (by kernel_rfl) (by kernel_rfl) (by kernel_rfl) args w
theorem guard (name : String) (w : World) : (FmtStop.guard name).run Tryf.prog w = .ok () w := by kernel_rfl
theorem nextTurns : Extern.next FmtCalls.turnsRow = some (FmtCalls.begun #[] #[]) := by kernel_rfl
-- "%s: %v"
theorem fmt2 : FmtStop.printed? ⟨#[37, 115, 58, 32, 37, 118]⟩ 2 = some [(0, 115, false), (1, 118, false)] := by kernel_rfl
theorem fmt2r (w : World) : (FmtDoors.printed ⟨#[37, 115, 58, 32, 37, 118]⟩ 2).run Tryf.prog w = .ok [(0, 115, false), (1, 118, false)] w := by kernel_rfl
-- "%s:%d: %v"
theorem fmt3 : FmtStop.printed? ⟨#[37, 115, 58, 37, 100, 58, 32, 37, 118]⟩ 3 = some [(0, 115, false), (1, 100, false), (2, 118, false)] := by kernel_rfl
theorem fmt3r (w : World) : (FmtDoors.printed ⟨#[37, 115, 58, 37, 100, 58, 32, 37, 118]⟩ 3).run Tryf.prog w = .ok [(0, 115, false), (1, 100, false), (2, 118, false)] w := by kernel_rfl
-- int
theorem name3 : Tryf.prog.typeName? 3 3 = some "int" := by kernel_rfl
def shape3 : List UInt8 := [5, 3, 0, 0, 0, 0, 0, 0, 0, 105, 110, 116]
theorem act3_100 (name : String) (x : Value) (w : World) : (FmtCalls.act name false 100 false (.iface 3 x)).run Tryf.prog w = .ok (.closed false) w := by kernel_rfl
theorem op3_100 (name : String) (x : Int) (w : World) : (FmtStop.operand name false 100 false (.iface 3 (.int .i64 x))).run Tryf.prog w = .ok (shape3, Go.Extern.Stop.digits 8 (x % 2 ^ 64).toNat) w := by kernel_rfl
-- string
theorem name9 : Tryf.prog.typeName? 3 9 = some "string" := by kernel_rfl
def shape9 : List UInt8 := [12, 6, 0, 0, 0, 0, 0, 0, 0, 115, 116, 114, 105, 110, 103]
theorem act9_115 (name : String) (x : Value) (w : World) : (FmtCalls.act name false 115 false (.iface 9 x)).run Tryf.prog w = .ok (.closed false) w := by kernel_rfl
theorem op9_115 (name : String) (x : ByteArray) (w : World) : (FmtStop.operand name false 115 false (.iface 9 (.string x))).run Tryf.prog w = .ok (shape9, FmtStop.pack x.data.toList) w := by kernel_rfl
-- nil
theorem actNil_118 (name : String) (w : World) : (FmtCalls.act name false 118 false .nilIface).run Tryf.prog w = .ok (.closed false) w := by kernel_rfl
theorem opNil_118 (name : String) (w : World) : (FmtStop.operand name false 118 false .nilIface).run Tryf.prog w = .ok ([0], []) w := by kernel_rfl
-- an error of errors.New's make
def name32 : List UInt8 := [42, 101, 114, 114, 111, 114, 115, 46, 101, 114, 114, 111, 114, 83, 116, 114, 105, 110, 103]
def plain32 : List UInt8 := 14 :: FmtStop.pack name32
def str32 : String := String.singleton (Char.ofNat 42) ++ "errors.errorString"
theorem str32_bytes : str32.toByteArray.data.toList = name32 := by kernel_rfl
theorem act32_118 (name : String) (x : Value) (w : World) : (FmtCalls.act name false 118 false (.iface 32 x)).run Tryf.prog w = .ok (.closed false) w := by kernel_rfl
theorem op32_118 (name : String) (a : Addr) (s : ByteArray) (w : World) (hc : w.cell? a = some (.string s)) :
    (FmtStop.operand name false 118 false (.iface 32 (.pointer (some a)))).run Tryf.prog w = .ok (plain32, s.data.toList) w := by
  have h1 : (typeStr 32).run Tryf.prog w = .ok str32 w := by kernel_rfl
  have d2 : Tryf.t32.desc = .pointer 34 := rfl
  have d3 : Tryf.t34.desc = .named "errors.errorString" 33 := rfl
  simp [FmtStop.operand, h1, d2, d3, run_load, hc, plain32, str32_bytes]

attribute [local go_sem] call10 guard fmt2 fmt2r fmt3 fmt3r act3_100 op3_100 act9_115 op9_115 actNil_118 opNil_118 act32_118

/-- The cause's reading: nil; an error of errors.New's make. -/
def causeR (hasErr : Bool) (txt : List UInt8) : List (List UInt8) := if hasErr = true then [plain32, txt] else [[0], []]
/-- WHAT fmt IS ASKED. -/
def reading (path : List UInt8) (line : Int) (hasErr : Bool) (txt : List UInt8) : List (List UInt8) :=
  if line = 0 then [[37, 115, 58, 32, 37, 118], shape9, FmtStop.pack path] ++ causeR hasErr txt
  else [[37, 115, 58, 37, 100, 58, 32, 37, 118], shape9, FmtStop.pack path, shape3, Go.Extern.Stop.digits 8 (line % 2 ^ 64).toNat] ++ causeR hasErr txt

theorem reading_00 (path : List UInt8) (txt : List UInt8) : reading path 0 false txt = [[37, 115, 58, 32, 37, 118], shape9, FmtStop.pack path, [0], []] := rfl
theorem reading_01 (path : List UInt8) (txt : List UInt8) : reading path 0 true txt = [[37, 115, 58, 32, 37, 118], shape9, FmtStop.pack path, plain32, txt] := rfl
theorem reading_10 (path : List UInt8) (line : Int) (h : ¬ line = 0) (txt : List UInt8) : reading path line false txt = [[37, 115, 58, 37, 100, 58, 32, 37, 118], shape9, FmtStop.pack path, shape3, Go.Extern.Stop.digits 8 (line % 2 ^ 64).toNat, [0], []] := by
  unfold reading; rw [if_neg h]; rfl
theorem reading_11 (path : List UInt8) (line : Int) (h : ¬ line = 0) (txt : List UInt8) : reading path line true txt = [[37, 115, 58, 37, 100, 58, 32, 37, 118], shape9, FmtStop.pack path, shape3, Go.Extern.Stop.digits 8 (line % 2 ^ 64).toNat, plain32, txt] := by
  unfold reading; rw [if_neg h]; rfl

/-- A FileError in block g, its cause nil or an error of errors.New's make. -/
structure FE (w : World) (g : Nat) (path : ByteArray) (line : Int) (hasErr : Bool) (txt : ByteArray) : Prop where
  c0 : w.cell? ⟨g, 0, none⟩ = some (.string path)
  c1 : w.cell? ⟨g, 1, none⟩ = some (.int .i64 line)
  n2 : hasErr = false → w.cell? ⟨g, 2, none⟩ = some .nilIface
  e2 : hasErr = true → ∃ b, b < w.heap.size ∧ w.cell? ⟨g, 2, none⟩ = some (.iface 32 (.pointer (some ⟨b, 0, none⟩))) ∧ w.cell? ⟨b, 0, none⟩ = some (.string txt)

set_option maxHeartbeats 1000000 in
theorem f9_00 (F : Interp) (g : Nat) (path txt : ByteArray) (w : World) (hF : F.answers w.tape) (hg : g < w.heap.size) (h : FE w g path 0 false txt) :
    Calls Tryf.prog 9 #[.pointer (some ⟨g, 0, none⟩)] w fun e w' => e = .returned (.string (FmtStop.textOf (F "fmt.Sprintf" (reading path.data.toList 0 false txt.data.toList) 0))) ∧ Below w.heap.size w w' := by
  have hF' := answers_open hF
  have c0 := h.c0; have c1 := h.c1; have c2 := h.n2 rfl
  go_enter Tryf.func9, Tryf.ntmps9
  go_wp2_with fail
  go_region_with (apply rows_value nextTurns; (case hr => (go_simp; exact ⟨rfl, rfl⟩)))
  all_goals
    go_wp2_with fail
    go_ret
    exact ⟨rfl, (((Below.refl _ w).alloc (Nat.le_refl _) _).drew).drew⟩

set_option maxHeartbeats 1000000 in
theorem f9_01 (F : Interp) (g : Nat) (path txt : ByteArray) (w : World) (hF : F.answers w.tape) (hg : g < w.heap.size) (h : FE w g path 0 true txt) :
    Calls Tryf.prog 9 #[.pointer (some ⟨g, 0, none⟩)] w fun e w' => e = .returned (.string (FmtStop.textOf (F "fmt.Sprintf" (reading path.data.toList 0 true txt.data.toList) 0))) ∧ Below w.heap.size w w' := by
  have hF' := answers_open hF
  have c0 := h.c0; have c1 := h.c1
  obtain ⟨b, hb, c2, cb⟩ := h.e2 rfl
  have hop : ∀ (o : Obj), (FmtStop.operand "fmt.Sprintf" false 118 false (.iface 32 (.pointer (some ⟨b, 0, none⟩)))).run Tryf.prog (w.alloc o).drew = .ok (plain32, txt.data.toList) (w.alloc o).drew := fun o => op32_118 "fmt.Sprintf" ⟨b, 0, none⟩ txt (w.alloc o).drew (by
    show (w.alloc o).cell? _ = _
    rw [World.cell?_alloc_past _ _ _ hb]
    exact cb)
  go_enter Tryf.func9, Tryf.ntmps9
  go_wp2_with fail
  go_region_with (apply rows_value nextTurns; (case hr => (go_simp; exact ⟨rfl, rfl⟩)))
  all_goals
    go_wp2_with fail
    go_ret
    exact ⟨rfl, (((Below.refl _ w).alloc (Nat.le_refl _) _).drew).drew⟩

end Go.Proofs.Qxb6616690aFmt
