import Derived.Test.Qxb6629048aFmtA
import Derived.Stop.CallBack
import Derived.Stop.IfaceNil
import GoSem.ClaimData
import Derived.WalkKit
import Derived.WalkSpells
import Derived.WalkLawsBesides
import Derived.Deep.OwnRows
import Derived.Deep.QuietTactic
import Derived.BigQuiet
namespace Go.Proofs.Qxb6629048aFmt
open Go.RowKit Go.Deep Go.Extern.Stop Go.Stop Go.Extern

theorem call19 (args : Array Value) (w : World) : (callFunc 19 args).run Tryf.prog w = ((FmtStop.errorf #[9, 53] #[46] args).run Tryf.prog w).andThen fun v w' => .ok (.value v) w' :=
  run_callFunc_extern Tryf.func19 (by kernel_rfl) (by kernel_rfl) (by kernel_rfl) (by kernel_rfl) args w
theorem guardF (name : String) (w : World) : (FmtStop.guard name).run Tryf.prog w = .ok () w := by kernel_rfl
theorem fmt0 : FmtStop.printed? ⟨#[65, 86, 80, 32, 37, 100, 58, 32, 37, 100, 32, 111, 99, 116, 101, 116, 115, 32, 111, 102, 32, 100, 97, 116, 97, 44, 32, 119, 97, 110, 116, 32, 52]⟩ 2 = some [(0, 100, false), (1, 100, false)] := by kernel_rfl
theorem fmt0r (w : World) : (FmtDoors.printed ⟨#[65, 86, 80, 32, 37, 100, 58, 32, 37, 100, 32, 111, 99, 116, 101, 116, 115, 32, 111, 102, 32, 100, 97, 116, 97, 44, 32, 119, 97, 110, 116, 32, 52]⟩ 2).run Tryf.prog w = .ok [(0, 100, false), (1, 100, false)] w := by kernel_rfl
theorem fmt1 : FmtStop.printed? ⟨#[65, 86, 80, 32, 37, 100, 58, 32, 37, 100, 32, 111, 99, 116, 101, 116, 115, 32, 111, 102, 32, 100, 97, 116, 97, 44, 32, 119, 97, 110, 116, 32, 52]⟩ 0 = some [] := by kernel_rfl
theorem fmt1r (w : World) : (FmtDoors.printed ⟨#[65, 86, 80, 32, 37, 100, 58, 32, 37, 100, 32, 111, 99, 116, 101, 116, 115, 32, 111, 102, 32, 100, 97, 116, 97, 44, 32, 119, 97, 110, 116, 32, 52]⟩ 0).run Tryf.prog w = .ok [] w := by kernel_rfl
def shape23 : List UInt8 := [8, 6, 0, 0, 0, 0, 0, 0, 0, 117, 105, 110, 116, 51, 50]
def shape3 : List UInt8 := [5, 3, 0, 0, 0, 0, 0, 0, 0, 105, 110, 116]
theorem op23_100 (name : String) (x : Int) (w : World) : (FmtStop.operand name false 100 false (.iface 23 (.int .u32 x))).run Tryf.prog w = .ok (shape23, Go.Extern.Stop.digits 8 (x % 2 ^ 64).toNat) w := by kernel_rfl
theorem op23_100w (name : String) (x : Int) (w : World) : (FmtStop.operand name true 100 false (.iface 23 (.int .u32 x))).run Tryf.prog w = .ok (shape23, Go.Extern.Stop.digits 8 (x % 2 ^ 64).toNat) w := by kernel_rfl
theorem op3_100 (name : String) (x : Int) (w : World) : (FmtStop.operand name false 100 false (.iface 3 (.int .i64 x))).run Tryf.prog w = .ok (shape3, Go.Extern.Stop.digits 8 (x % 2 ^ 64).toNat) w := by kernel_rfl
theorem op3_100w (name : String) (x : Int) (w : World) : (FmtStop.operand name true 100 false (.iface 3 (.int .i64 x))).run Tryf.prog w = .ok (shape3, Go.Extern.Stop.digits 8 (x % 2 ^ 64).toNat) w := by kernel_rfl
theorem ptr56 (w : World) : (FmtStop.ptrTo "errors.errorString").run Tryf.prog w = .ok 56 w := by kernel_rfl
theorem elem56 (w : World) : (elemOf 56).run Tryf.prog w = .ok 58 w := by kernel_rfl
theorem isError56 (w : World) : (FmtDoors.textMethod 56 "Error").run Tryf.prog w = .ok true w := by kernel_rfl
theorem ptr55 (w : World) : (FmtStop.ptrTo "fmt.wrapError").run Tryf.prog w = .ok 55 w := by kernel_rfl
theorem elem55 (w : World) : (elemOf 55).run Tryf.prog w = .ok 76 w := by kernel_rfl
theorem isError55 (w : World) : (FmtDoors.textMethod 55 "Error").run Tryf.prog w = .ok true w := by kernel_rfl
attribute [local go_sem] call19 guardF fmt0 fmt0r fmt1 fmt1r op23_100 op23_100w op3_100 op3_100w ptr56 elem56 isError56 ptr55 elem55 isError55


theorem mand_any (code : Int) (ao : Option Addr) (n c : Nat) (w : World) :
    Calls Tryf.prog 14 #[.int .u32 code, .slice ao n c] w fun e w' => e = .returned (.agg #[.int .u32 code, .int .u8 64, .int .u32 0, .slice ao n c]) ∧ ∃ c, w' = w.alloc (.cells c 35) := by
  go_enter Tryf.func14, Tryf.ntmps14
  go_wp2
  simp [bodyPost, results, Tryf.results14, go_sem]
  exact ⟨_, rfl⟩
theorem mand3_any (code : Int) (ao : Option Addr) (n c : Nat)  (w : World) :
    Calls Tryf.prog 15 #[.int .u32 code, .slice ao n c] w fun e w' => e = .returned (.agg #[.int .u32 code, .int .u8 192, .int .u32 10415, .slice ao n c]) ∧ ∃ c, w' = w.alloc (.cells c 35) := by
  go_enter Tryf.func15, Tryf.ntmps15
  go_wp2
  simp [bodyPost, results, Tryf.results15, go_sem]
  exact ⟨_, rfl⟩

/-- binary.BigEndian.Uint32 as the walk spells it. -/
def be (xs : List Int) : Int :=
  bits BinOp.or IntKind.u32 (bits BinOp.or IntKind.u32 (bits BinOp.or IntKind.u32 (xs.getD 3 0 % 4294967296) (xs.getD 2 0 % 4294967296 * 256 % 4294967296)) (xs.getD 1 0 % 4294967296 * 65536 % 4294967296)) (xs.getD 0 0 % 4294967296 * 16777216 % 4294967296)

theorem be_any (b o n c : Nat) (x0 x1 x2 x3 : Int) (hn : 4 ≤ n) (w : World) (h0 : w.cell? ⟨b, o, none⟩ = some (.int .u8 x0)) (h1 : w.cell? ⟨b, o+1, none⟩ = some (.int .u8 x1)) (h2 : w.cell? ⟨b, o+2, none⟩ = some (.int .u8 x2)) (h3 : w.cell? ⟨b, o+3, none⟩ = some (.int .u8 x3)) (hb : b < w.heap.size) :
    Calls Tryf.prog 18 #[.agg #[], .slice (some ⟨b, o, none⟩) n c] w fun e w' => e = .returned (.int .u32 (be [x0, x1, x2, x3])) ∧ Below w.heap.size w w' := by
  have q0 : (0 : Int) < n := by omega
  have q1 : (1 : Int) < n := by omega
  have q2 : (2 : Int) < n := by omega
  have q3 : (3 : Int) < n := by omega
  go_enter Tryf.func18, Tryf.ntmps18
  go_wp2
  go_quiet (fail)
  go_wp2
  go_ret
  exact ⟨rfl, below_drewN ((Below.refl _ _).alloc (Nat.le_refl _) _) _⟩

theorem u32_ok (b o : Nat) (code fl ven : Int) (c : Nat) (x0 x1 x2 x3 : Int) (w : World) (hb : b < w.heap.size) (h0 : w.cell? ⟨b, o, none⟩ = some (.int .u8 x0)) (h1 : w.cell? ⟨b, o+1, none⟩ = some (.int .u8 x1)) (h2 : w.cell? ⟨b, o+2, none⟩ = some (.int .u8 x2)) (h3 : w.cell? ⟨b, o+3, none⟩ = some (.int .u8 x3)) :
    Calls Tryf.prog 16 #[.agg #[.int .u32 code, .int .u8 fl, .int .u32 ven, .slice (some ⟨b, o, none⟩) 4 c]] w fun e w' => e = .returned (.tuple #[.int .u32 (be [x0, x1, x2, x3]), .nilIface]) ∧ Below w.heap.size w w' := by
  go_enter Tryf.func16, Tryf.ntmps16
  go_wp2_with fail
  refine (be_any b o 4 c x0 x1 x2 x3 (by omega) _ (by go_simp) (by go_simp) (by go_simp) (by go_simp) (by go_simp)).mono ?_
  rintro e w' ⟨rfl, hb1⟩
  go_wp2_with fail
  go_ret2
  exact ⟨rfl, ((Below.refl _ _).alloc (Nat.le_refl _) _).trans (hb1.mono (by simp))⟩

theorem u32_bad (F : Interp) (code fl ven : Int) (ao : Option Addr) (n c : Nat) (w : World) (hF : F.answers w.tape) (hn : ((n : Int) != 4) = true) :
    Calls Tryf.prog 16 #[.agg #[.int .u32 code, .int .u8 fl, .int .u32 ven, .slice ao n c]] w fun e w' => ∃ a, e = .returned (.tuple #[.int .u32 0, .iface 56 (.pointer (some a))]) ∧ Below w.heap.size w w' := by
  have hF' := answers_open hF
  go_enter Tryf.func16, Tryf.ntmps16
  go_wp2
  go_ret2
  exact ⟨_, rfl, ((((Below.refl _ _).alloc (Nat.le_refl _) _).alloc (by simp) _).alloc (by simp; omega) _).drew⟩
end Go.Proofs.Qxb6629048aFmt
