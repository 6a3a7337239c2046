/-
  WALKS: fmt.Errorf (27) over the stop fmt.errorf (28), errors.New (25).
-/
import Derived.Test.Qxb6616116aFmtWc
import Derived.Stop.CallBack
import Derived.Stop.IfaceNil
import GoSem.ClaimData
namespace Go.Proofs.Qxb6616116aFmt
open Go.RowKit Go.Extern.Stop Go.Stop Go.Extern

/-! ### Closed facts on the stop at this dump -/
theorem Tryf.call28 (args : Array Value) (w : World) : (callFunc 28 args).run Tryf.prog w = ((FmtStop.errorf #[9, 61] #[31] args).run Tryf.prog w).andThen fun v w' => .ok (.value v) w' :=
  run_callFunc_extern Tryf.func28 (by kernel_rfl) (by kernel_rfl) (by kernel_rfl) (by kernel_rfl) args w
theorem Tryf.guard (name : String) (w : World) : (FmtStop.guard name).run Tryf.prog w = .ok () w := by kernel_rfl


theorem Tryf.fA (w : World) : (FmtDoors.printed ⟨#[37, 113, 32, 105, 115, 32, 110, 111, 116, 32, 97, 32, 110, 117, 109, 98, 101, 114, 32, 111, 114, 32, 97, 32, 110, 97, 109, 101]⟩ 1).run Tryf.prog w = .ok [(0, 113, false)] w := by kernel_rfl
theorem Tryf.fB (w : World) : (FmtDoors.printed ⟨#[37, 113, 32, 105, 115, 32, 110, 111, 116, 32, 97, 32, 110, 117, 109, 98, 101, 114]⟩ 1).run Tryf.prog w = .ok [(0, 113, false)] w := by kernel_rfl
theorem Tryf.fC (w : World) : (FmtDoors.printed ⟨#[37, 115, 32, 105, 115, 32, 111, 117, 116, 115, 105, 100, 101, 32, 37, 100, 45, 37, 100]⟩ 3).run Tryf.prog w = .ok [(0, 115, false), (1, 100, false), (2, 100, false)] w := by kernel_rfl
theorem Tryf.fD (w : World) : (FmtDoors.printed ⟨#[37, 115, 32, 116, 97, 107, 101, 115, 32, 111, 110, 101, 32, 37, 115, 32, 98, 101, 102, 111, 114, 101, 32, 105, 116, 58, 32, 37, 119]⟩ 3).run Tryf.prog w = .ok [(0, 115, false), (1, 115, false), (2, 119, false)] w := by kernel_rfl

def Tryf.shape9 : List UInt8 := [12, 6, 0, 0, 0, 0, 0, 0, 0, 115, 116, 114, 105, 110, 103]
def Tryf.shape3 : List UInt8 := [5, 3, 0, 0, 0, 0, 0, 0, 0, 105, 110, 116]
theorem Tryf.op9_113w (name : String) (x : ByteArray) (w : World) : (FmtStop.operand name true 113 false (.iface 9 (.string x))).run Tryf.prog w = .ok (Tryf.shape9, FmtStop.pack x.data.toList) w := by kernel_rfl
theorem Tryf.op9_115w (name : String) (x : ByteArray) (w : World) : (FmtStop.operand name true 115 false (.iface 9 (.string x))).run Tryf.prog w = .ok (Tryf.shape9, FmtStop.pack x.data.toList) w := by kernel_rfl
theorem Tryf.op3_100w (name : String) (x : Int) (w : World) : (FmtStop.operand name true 100 false (.iface 3 (.int .i64 x))).run Tryf.prog w = .ok (Tryf.shape3, Go.Extern.Stop.digits 8 (x % 2 ^ 64).toNat) w := by kernel_rfl
theorem Tryf.ptr58 (w : World) : (FmtStop.ptrTo "errors.errorString").run Tryf.prog w = .ok 58 w := by kernel_rfl
theorem Tryf.elem58 (w : World) : (elemOf 58).run Tryf.prog w = .ok 60 w := by kernel_rfl
theorem Tryf.isErr58 (w : World) : (FmtDoors.textMethod 58 "Error").run Tryf.prog w = .ok true w := by kernel_rfl
theorem Tryf.ptr62 (w : World) : (FmtStop.ptrTo "fmt.wrapError").run Tryf.prog w = .ok 62 w := by kernel_rfl
theorem Tryf.elem62 (w : World) : (elemOf 62).run Tryf.prog w = .ok 80 w := by kernel_rfl

/-- An error of errors.New's make as an operand. -/
theorem Tryf.opPlain58_119w (name : String) (a : Addr) (s : ByteArray) (w : World) (hc : w.cell? a = some (.string s)) :
    (FmtStop.operand name true 119 false (.iface 58 (.pointer (some a)))).run Tryf.prog w = .ok (14 :: FmtStop.pack Tryf.t58.str.toUTF8.data.toList, s.data.toList) w := by
  have h1 : (typeStr 58).run Tryf.prog w = .ok Tryf.t58.str w := by kernel_rfl
  have d2 : Tryf.t58.desc = .pointer 60 := rfl
  have d3 : Tryf.t60.desc = .named "errors.errorString" 59 := rfl
  simp [FmtStop.operand, h1, d2, d3, run_load, hc]

attribute [local go_sem] Tryf.call28 Tryf.guard Tryf.fA Tryf.fB Tryf.fC Tryf.fD Tryf.op9_113w Tryf.op9_115w Tryf.op3_100w Tryf.ptr58 Tryf.elem58 Tryf.isErr58 Tryf.ptr62 Tryf.elem62

theorem new25 (s : ByteArray) (w : World) : Calls Tryf.prog 25 #[.string s] w fun e w' => e = .returned (.iface 58 (.pointer (some ⟨w.heap.size, 0, none⟩))) ∧ w' = w.alloc (.cells #[.string s] 60) := by
  go_enter Tryf.func25, Tryf.ntmps25
  go_wp2
  go_ret
  exact ⟨rfl, rfl⟩

theorem errA (F : Interp) (x : ByteArray) (blk : Nat) (w : World) (hF : F.answers w.tape) (hc0 : w.cell? ⟨blk, 0, none⟩ = some (.iface 9 (.string x))) :
    Calls Tryf.prog 27 #[.string ⟨#[37, 113, 32, 105, 115, 32, 110, 111, 116, 32, 97, 32, 110, 117, 109, 98, 101, 114, 32, 111, 114, 32, 97, 32, 110, 97, 109, 101]⟩, .slice (some ⟨blk, 0, none⟩) 1 1] w fun e w' =>
      e = .returned (.iface 58 (.pointer (some ⟨w.heap.size, 0, none⟩))) ∧ ∃ t, w' = (w.alloc (.cells #[.string t] 60)).drew := by
  have hF' := hF
  unfold Interp.answers at hF'
  go_enter Tryf.func27, Tryf.ntmps27
  go_wp2
  go_ret
  exact ⟨rfl, _, rfl⟩

theorem errB (F : Interp) (x : ByteArray) (blk : Nat) (w : World) (hF : F.answers w.tape) (hc0 : w.cell? ⟨blk, 0, none⟩ = some (.iface 9 (.string x))) :
    Calls Tryf.prog 27 #[.string ⟨#[37, 113, 32, 105, 115, 32, 110, 111, 116, 32, 97, 32, 110, 117, 109, 98, 101, 114]⟩, .slice (some ⟨blk, 0, none⟩) 1 1] w fun e w' =>
      e = .returned (.iface 58 (.pointer (some ⟨w.heap.size, 0, none⟩))) ∧ ∃ t, w' = (w.alloc (.cells #[.string t] 60)).drew := by
  have hF' := hF
  unfold Interp.answers at hF'
  go_enter Tryf.func27, Tryf.ntmps27
  go_wp2
  go_ret
  exact ⟨rfl, _, rfl⟩

theorem errC (F : Interp) (x : ByteArray) (y z : Int) (blk : Nat) (w : World) (hF : F.answers w.tape) (hc0 : w.cell? ⟨blk, 0, none⟩ = some (.iface 9 (.string x))) (hc1 : w.cell? ⟨blk, 1, none⟩ = some (.iface 3 (.int .i64 y))) (hc2 : w.cell? ⟨blk, 2, none⟩ = some (.iface 3 (.int .i64 z))) :
    Calls Tryf.prog 27 #[.string ⟨#[37, 115, 32, 105, 115, 32, 111, 117, 116, 115, 105, 100, 101, 32, 37, 100, 45, 37, 100]⟩, .slice (some ⟨blk, 0, none⟩) 3 3] w fun e w' =>
      e = .returned (.iface 58 (.pointer (some ⟨w.heap.size, 0, none⟩))) ∧ ∃ t, w' = (w.alloc (.cells #[.string t] 60)).drew := by
  have hF' := hF
  unfold Interp.answers at hF'
  go_enter Tryf.func27, Tryf.ntmps27
  go_wp2
  go_ret
  exact ⟨rfl, _, rfl⟩

theorem errD (F : Interp) (x y : ByteArray) (a : Addr) (s : ByteArray) (blk : Nat) (w : World) (hF : F.answers w.tape) (hc0 : w.cell? ⟨blk, 0, none⟩ = some (.iface 9 (.string x))) (hc1 : w.cell? ⟨blk, 1, none⟩ = some (.iface 9 (.string y)))
    (hc2 : w.cell? ⟨blk, 2, none⟩ = some (.iface 58 (.pointer (some a)))) (hs : w.cell? a = some (.string s)) :
    Calls Tryf.prog 27 #[.string ⟨#[37, 115, 32, 116, 97, 107, 101, 115, 32, 111, 110, 101, 32, 37, 115, 32, 98, 101, 102, 111, 114, 101, 32, 105, 116, 58, 32, 37, 119]⟩, .slice (some ⟨blk, 0, none⟩) 3 3] w fun e w' =>
      e = .returned (.iface 62 (.pointer (some ⟨w.heap.size, 0, none⟩))) ∧ ∃ t, w' = (w.alloc (.cells #[.string t, .iface 58 (.pointer (some a))] 80)).drew := by
  have hF' := hF
  unfold Interp.answers at hF'
  have hop := Tryf.opPlain58_119w "fmt.errorf" a s w hs
  go_enter Tryf.func27, Tryf.ntmps27
  go_wp2
  go_ret
  exact ⟨rfl, _, rfl⟩

end Go.Proofs.Qxb6616116aFmt
