/-
  The three calls of fmt.Errorf on the roads: each hands back a new error; what was there stands. Closed facts after the guide's DigitsFmt.lean, at this dump's numbers.
-/
import Derived.Test.YbulkcwdyFmtProg
import Derived.Stop.CallBack
import Derived.Stop.IfaceNil
import Derived.WalkKit
import Derived.WalkSpells
import GoSem.ClaimData
namespace Go.Proofs.YbulkcwdyFmt
open Go.RowKit Go.Extern.Stop Go.Stop Go.Extern

theorem call14 (args : Array Value) (w : World) : (callFunc 14 args).run Ybaf.prog w = ((FmtStop.errorf #[9, 59] #[33] args).run Ybaf.prog w).andThen fun v w' => .ok (.value v) w' :=
  run_callFunc_extern Ybaf.func14 (by kernel_rfl) (by kernel_rfl) (by kernel_rfl) (by kernel_rfl) args w
theorem guardN (name : String) (w : World) : (FmtStop.guard name).run Ybaf.prog w = .ok () w := by kernel_rfl
-- process pct d is not one of 0 to pct d
theorem fmt0 : FmtStop.printed? ⟨#[112, 114, 111, 99, 101, 115, 115, 32, 37, 100, 32, 105, 115, 32, 110, 111, 116, 32, 111, 110, 101, 32, 111, 102, 32, 48, 32, 116, 111, 32, 37, 100]⟩ 2 = some [(0, 100, false), (1, 100, false)] := by kernel_rfl
theorem fmt0r (w : World) : (FmtDoors.printed ⟨#[112, 114, 111, 99, 101, 115, 115, 32, 37, 100, 32, 105, 115, 32, 110, 111, 116, 32, 111, 110, 101, 32, 111, 102, 32, 48, 32, 116, 111, 32, 37, 100]⟩ 2).run Ybaf.prog w = .ok [(0, 100, false), (1, 100, false)] w := by kernel_rfl
theorem fmt0z : FmtStop.printed? ⟨#[112, 114, 111, 99, 101, 115, 115, 32, 37, 100, 32, 105, 115, 32, 110, 111, 116, 32, 111, 110, 101, 32, 111, 102, 32, 48, 32, 116, 111, 32, 37, 100]⟩ 0 = some [] := by kernel_rfl
theorem fmt0zr (w : World) : (FmtDoors.printed ⟨#[112, 114, 111, 99, 101, 115, 115, 32, 37, 100, 32, 105, 115, 32, 110, 111, 116, 32, 111, 110, 101, 32, 111, 102, 32, 48, 32, 116, 111, 32, 37, 100]⟩ 0).run Ybaf.prog w = .ok [] w := by kernel_rfl
-- a timestamp of pct d processes holds pct d phases and pct d counters, not pct d and pct d
theorem fmt1 : FmtStop.printed? ⟨#[97, 32, 116, 105, 109, 101, 115, 116, 97, 109, 112, 32, 111, 102, 32, 37, 100, 32, 112, 114, 111, 99, 101, 115, 115, 101, 115, 32, 104, 111, 108, 100, 115, 32, 37, 100, 32, 112, 104, 97, 115, 101, 115, 32, 97, 110, 100, 32, 37, 100, 32, 99, 111, 117, 110, 116, 101, 114, 115, 44, 32, 110, 111, 116, 32, 37, 100, 32, 97, 110, 100, 32, 37, 100]⟩ 5 = some [(0, 100, false), (1, 100, false), (2, 100, false), (3, 100, false), (4, 100, false)] := by kernel_rfl
theorem fmt1r (w : World) : (FmtDoors.printed ⟨#[97, 32, 116, 105, 109, 101, 115, 116, 97, 109, 112, 32, 111, 102, 32, 37, 100, 32, 112, 114, 111, 99, 101, 115, 115, 101, 115, 32, 104, 111, 108, 100, 115, 32, 37, 100, 32, 112, 104, 97, 115, 101, 115, 32, 97, 110, 100, 32, 37, 100, 32, 99, 111, 117, 110, 116, 101, 114, 115, 44, 32, 110, 111, 116, 32, 37, 100, 32, 97, 110, 100, 32, 37, 100]⟩ 5).run Ybaf.prog w = .ok [(0, 100, false), (1, 100, false), (2, 100, false), (3, 100, false), (4, 100, false)] w := by kernel_rfl
theorem fmt1z : FmtStop.printed? ⟨#[97, 32, 116, 105, 109, 101, 115, 116, 97, 109, 112, 32, 111, 102, 32, 37, 100, 32, 112, 114, 111, 99, 101, 115, 115, 101, 115, 32, 104, 111, 108, 100, 115, 32, 37, 100, 32, 112, 104, 97, 115, 101, 115, 32, 97, 110, 100, 32, 37, 100, 32, 99, 111, 117, 110, 116, 101, 114, 115, 44, 32, 110, 111, 116, 32, 37, 100, 32, 97, 110, 100, 32, 37, 100]⟩ 0 = some [] := by kernel_rfl
theorem fmt1zr (w : World) : (FmtDoors.printed ⟨#[97, 32, 116, 105, 109, 101, 115, 116, 97, 109, 112, 32, 111, 102, 32, 37, 100, 32, 112, 114, 111, 99, 101, 115, 115, 101, 115, 32, 104, 111, 108, 100, 115, 32, 37, 100, 32, 112, 104, 97, 115, 101, 115, 32, 97, 110, 100, 32, 37, 100, 32, 99, 111, 117, 110, 116, 101, 114, 115, 44, 32, 110, 111, 116, 32, 37, 100, 32, 97, 110, 100, 32, 37, 100]⟩ 0).run Ybaf.prog w = .ok [] w := by kernel_rfl
-- the pct s of process pct d (of 0 to pct d) is pct d, outside 0 to pct d
theorem fmt2 : FmtStop.printed? ⟨#[116, 104, 101, 32, 37, 115, 32, 111, 102, 32, 112, 114, 111, 99, 101, 115, 115, 32, 37, 100, 32, 40, 111, 102, 32, 48, 32, 116, 111, 32, 37, 100, 41, 32, 105, 115, 32, 37, 100, 44, 32, 111, 117, 116, 115, 105, 100, 101, 32, 48, 32, 116, 111, 32, 37, 100]⟩ 5 = some [(0, 115, false), (1, 100, false), (2, 100, false), (3, 100, false), (4, 100, false)] := by kernel_rfl
theorem fmt2r (w : World) : (FmtDoors.printed ⟨#[116, 104, 101, 32, 37, 115, 32, 111, 102, 32, 112, 114, 111, 99, 101, 115, 115, 32, 37, 100, 32, 40, 111, 102, 32, 48, 32, 116, 111, 32, 37, 100, 41, 32, 105, 115, 32, 37, 100, 44, 32, 111, 117, 116, 115, 105, 100, 101, 32, 48, 32, 116, 111, 32, 37, 100]⟩ 5).run Ybaf.prog w = .ok [(0, 115, false), (1, 100, false), (2, 100, false), (3, 100, false), (4, 100, false)] w := by kernel_rfl
theorem fmt2z : FmtStop.printed? ⟨#[116, 104, 101, 32, 37, 115, 32, 111, 102, 32, 112, 114, 111, 99, 101, 115, 115, 32, 37, 100, 32, 40, 111, 102, 32, 48, 32, 116, 111, 32, 37, 100, 41, 32, 105, 115, 32, 37, 100, 44, 32, 111, 117, 116, 115, 105, 100, 101, 32, 48, 32, 116, 111, 32, 37, 100]⟩ 0 = some [] := by kernel_rfl
theorem fmt2zr (w : World) : (FmtDoors.printed ⟨#[116, 104, 101, 32, 37, 115, 32, 111, 102, 32, 112, 114, 111, 99, 101, 115, 115, 32, 37, 100, 32, 40, 111, 102, 32, 48, 32, 116, 111, 32, 37, 100, 41, 32, 105, 115, 32, 37, 100, 44, 32, 111, 117, 116, 115, 105, 100, 101, 32, 48, 32, 116, 111, 32, 37, 100]⟩ 0).run Ybaf.prog w = .ok [] w := by kernel_rfl
def shape3 : List UInt8 := [5, 3, 0, 0, 0, 0, 0, 0, 0, 105, 110, 116]
def shape9 : List UInt8 := [12, 6, 0, 0, 0, 0, 0, 0, 0, 115, 116, 114, 105, 110, 103]
theorem op3_100 (name : String) (x : Int) (w : World) : (FmtStop.operand name false 100 false (.iface 3 (.int .i64 x))).run Ybaf.prog w = .ok (shape3, Go.Extern.Stop.digits 8 (x % 2 ^ 64).toNat) w := by kernel_rfl
theorem op3_100w (name : String) (x : Int) (w : World) : (FmtStop.operand name true 100 false (.iface 3 (.int .i64 x))).run Ybaf.prog w = .ok (shape3, Go.Extern.Stop.digits 8 (x % 2 ^ 64).toNat) w := by kernel_rfl
theorem strict3 (name : String) (x : Int) (w : World) : (FmtStop.strict name (.iface 3 (.int .i64 x))).run Ybaf.prog w = .ok (shape3, Go.Extern.Stop.digits 8 (x % 2 ^ 64).toNat) w := by kernel_rfl
theorem op9_115 (name : String) (s : ByteArray) (w : World) : (FmtStop.operand name false 115 false (.iface 9 (.string s))).run Ybaf.prog w = .ok (shape9, FmtStop.pack s.data.toList) w := by kernel_rfl
theorem op9_115w (name : String) (s : ByteArray) (w : World) : (FmtStop.operand name true 115 false (.iface 9 (.string s))).run Ybaf.prog w = .ok (shape9, FmtStop.pack s.data.toList) w := by kernel_rfl
theorem strict9 (name : String) (s : ByteArray) (w : World) : (FmtStop.strict name (.iface 9 (.string s))).run Ybaf.prog w = .ok (shape9, FmtStop.pack s.data.toList) w := by kernel_rfl
theorem ptr66 (w : World) : (FmtStop.ptrTo "errors.errorString").run Ybaf.prog w = .ok 66 w := by kernel_rfl
theorem elem66 (w : World) : (elemOf 66).run Ybaf.prog w = .ok 68 w := by kernel_rfl
theorem isError66 (w : World) : (FmtDoors.textMethod 66 "Error").run Ybaf.prog w = .ok true w := by kernel_rfl
attribute [local go_sem] call14 guardN fmt0 fmt0r fmt0z fmt0zr fmt1 fmt1r fmt1z fmt1zr fmt2 fmt2r fmt2z fmt2zr op3_100 op3_100w strict3 op9_115 op9_115w strict9 ptr66 elem66 isError66

theorem errorf_proc (F : Interp) (a b : Int) (blk : Nat) (w : World) (hF : F.answers w.tape)
    (hc0 : w.cell? ⟨blk, 0, none⟩ = some (.iface 3 (.int .i64 a))) (hc1 : w.cell? ⟨blk, 1, none⟩ = some (.iface 3 (.int .i64 b))) :
    Calls Ybaf.prog 10 #[.string ⟨#[112, 114, 111, 99, 101, 115, 115, 32, 37, 100, 32, 105, 115, 32, 110, 111, 116, 32, 111, 110, 101, 32, 111, 102, 32, 48, 32, 116, 111, 32, 37, 100]⟩, .slice (some ⟨blk, 0, none⟩) 2 2] w fun e w' => e = .returned (.iface 66 (.pointer (some ⟨w.heap.size, 0, none⟩))) ∧ Below w.heap.size w w' := by
  have hF' := answers_open hF
  go_enter Ybaf.func10, Ybaf.ntmps10
  go_wp2
  go_ret
  exact ⟨rfl, ((Below.refl _ _).alloc (Nat.le_refl _) _).drew⟩

theorem errorf_len (F : Interp) (a b c d e : Int) (blk : Nat) (w : World) (hF : F.answers w.tape)
    (hc0 : w.cell? ⟨blk, 0, none⟩ = some (.iface 3 (.int .i64 a))) (hc1 : w.cell? ⟨blk, 1, none⟩ = some (.iface 3 (.int .i64 b))) (hc2 : w.cell? ⟨blk, 2, none⟩ = some (.iface 3 (.int .i64 c))) (hc3 : w.cell? ⟨blk, 3, none⟩ = some (.iface 3 (.int .i64 d))) (hc4 : w.cell? ⟨blk, 4, none⟩ = some (.iface 3 (.int .i64 e))) :
    Calls Ybaf.prog 10 #[.string ⟨#[97, 32, 116, 105, 109, 101, 115, 116, 97, 109, 112, 32, 111, 102, 32, 37, 100, 32, 112, 114, 111, 99, 101, 115, 115, 101, 115, 32, 104, 111, 108, 100, 115, 32, 37, 100, 32, 112, 104, 97, 115, 101, 115, 32, 97, 110, 100, 32, 37, 100, 32, 99, 111, 117, 110, 116, 101, 114, 115, 44, 32, 110, 111, 116, 32, 37, 100, 32, 97, 110, 100, 32, 37, 100]⟩, .slice (some ⟨blk, 0, none⟩) 5 5] w fun e w' => e = .returned (.iface 66 (.pointer (some ⟨w.heap.size, 0, none⟩))) ∧ Below w.heap.size w w' := by
  have hF' := answers_open hF
  go_enter Ybaf.func10, Ybaf.ntmps10
  go_wp2
  go_ret
  exact ⟨rfl, ((Below.refl _ _).alloc (Nat.le_refl _) _).drew⟩

theorem errorf_out (F : Interp) (s : ByteArray) (a b c d : Int) (blk : Nat) (w : World) (hF : F.answers w.tape)
    (hc0 : w.cell? ⟨blk, 0, none⟩ = some (.iface 9 (.string s))) (hc1 : w.cell? ⟨blk, 1, none⟩ = some (.iface 3 (.int .i64 a))) (hc2 : w.cell? ⟨blk, 2, none⟩ = some (.iface 3 (.int .i64 b))) (hc3 : w.cell? ⟨blk, 3, none⟩ = some (.iface 3 (.int .i64 c))) (hc4 : w.cell? ⟨blk, 4, none⟩ = some (.iface 3 (.int .i64 d))) :
    Calls Ybaf.prog 10 #[.string ⟨#[116, 104, 101, 32, 37, 115, 32, 111, 102, 32, 112, 114, 111, 99, 101, 115, 115, 32, 37, 100, 32, 40, 111, 102, 32, 48, 32, 116, 111, 32, 37, 100, 41, 32, 105, 115, 32, 37, 100, 44, 32, 111, 117, 116, 115, 105, 100, 101, 32, 48, 32, 116, 111, 32, 37, 100]⟩, .slice (some ⟨blk, 0, none⟩) 5 5] w fun e w' => e = .returned (.iface 66 (.pointer (some ⟨w.heap.size, 0, none⟩))) ∧ Below w.heap.size w w' := by
  have hF' := answers_open hF
  go_enter Ybaf.func10, Ybaf.ntmps10
  go_wp2
  go_ret
  exact ⟨rfl, ((Below.refl _ _).alloc (Nat.le_refl _) _).drew⟩

end Go.Proofs.YbulkcwdyFmt
