/-
  WALKS: fmt.Errorf (17) over the stop fmt.errorf (19), errors.New (20); NewReader (9), fail (18), readVarint (15), Uvarint (10), End (11).
-/
import Derived.Test.Qxb6616226aFmtWb
import Derived.Stop.CallBack
import Derived.Stop.IfaceNil
import GoSem.ClaimData
namespace Go.Proofs.Qxb6616226aFmt
open Go.RowKit Go.Extern.Stop Go.Stop Go.Extern

/-! ### Closed facts on the stop at this dump -/
theorem Tryf.call19 (args : Array Value) (w : World) : (callFunc 19 args).run Tryf.prog w = ((FmtStop.errorf #[9, 46] #[32] args).run Tryf.prog w).andThen fun v w' => .ok (.value v) w' :=
  run_callFunc_extern Tryf.func19 (by kernel_rfl) (by kernel_rfl) (by kernel_rfl) (by kernel_rfl) args w
theorem Tryf.guard (name : String) (w : World) : (FmtStop.guard name).run Tryf.prog w = .ok () w := by kernel_rfl
theorem Tryf.fA (w : World) : (FmtDoors.printed ⟨#[37, 100, 32, 98, 121, 116, 101, 115, 32, 112, 97, 115, 116, 32, 105, 116, 115, 32, 101, 110, 100]⟩ 1).run Tryf.prog w = .ok [(0, 100, false)] w := by kernel_rfl
def Tryf.shape3 : List UInt8 := [5, 3, 0, 0, 0, 0, 0, 0, 0, 105, 110, 116]
theorem Tryf.op3_100w (name : String) (x : Int) (w : World) : (FmtStop.operand name true 100 false (.iface 3 (.int .i64 x))).run Tryf.prog w = .ok (Tryf.shape3, Go.Extern.Stop.digits 8 (x % 2 ^ 64).toNat) w := by kernel_rfl
theorem Tryf.ptr49 (w : World) : (FmtStop.ptrTo "errors.errorString").run Tryf.prog w = .ok 49 w := by kernel_rfl
theorem Tryf.elem49 (w : World) : (elemOf 49).run Tryf.prog w = .ok 51 w := by kernel_rfl

attribute [local go_sem] Tryf.call19 Tryf.guard Tryf.fA Tryf.op3_100w Tryf.ptr49 Tryf.elem49

theorem err17 (F : Interp) (x : Int) (blk : Nat) (w : World) (hF : F.answers w.tape) (hc0 : w.cell? ⟨blk, 0, none⟩ = some (.iface 3 (.int .i64 x))) :
    Calls Tryf.prog 17 #[.string ⟨#[37, 100, 32, 98, 121, 116, 101, 115, 32, 112, 97, 115, 116, 32, 105, 116, 115, 32, 101, 110, 100]⟩, .slice (some ⟨blk, 0, none⟩) 1 1] w fun e w' =>
      e = .returned (.iface 49 (.pointer (some ⟨w.heap.size, 0, none⟩))) ∧ ∃ t, w' = (w.alloc (.cells #[.string t] 51)).drew := by
  have hF' := hF
  unfold Interp.answers at hF'
  go_enter Tryf.func17, Tryf.ntmps17
  go_wp2
  go_ret
  exact ⟨rfl, _, rfl⟩

theorem new9 (a : Option Addr) (n c : Nat) (w : World) : Calls Tryf.prog 9 #[.slice a n c] w fun e w' => e = .returned (.pointer (some ⟨w.heap.size, 0, none⟩)) ∧ w' = w.alloc (.cells #[.slice a n c, .nilIface] 40) := by
  go_enter Tryf.func9, Tryf.ntmps9
  go_wp2
  go_ret
  exact ⟨rfl, rfl⟩

theorem fail18 (R : Nat) (x : Value) (err : Value) (w : World) (r0 : w.cell? ⟨R, 0, none⟩ = some x) (r1 : w.cell? ⟨R, 1, none⟩ = some .nilIface) (f0 : w.frozen? ⟨R, 0, none⟩ = false) (f1 : w.frozen? ⟨R, 1, none⟩ = false) :
    Calls Tryf.prog 18 #[.pointer (some ⟨R, 0, none⟩), .iface 49 err] w fun e w' => e = .returned (.tuple #[]) ∧ w' = (w.setCell ⟨R, 1, none⟩ (.iface 49 err)).setCell ⟨R, 0, none⟩ (.slice none 0 0) := by
  go_enter Tryf.func18, Tryf.ntmps18
  go_wp2
  refine bodyPost_end (v := .tuple #[]) ?_ rfl ⟨rfl, rfl⟩
  simp [results, Tryf.results18, go_sem]

set_option maxHeartbeats 1000000 in
theorem read15_ok (R b off n : Nat) (l : List UInt8) (v k : Nat) (w : World) (hl : l.length = n) (hB : Bs w (some ⟨b, off, none⟩) l) (hd : Lib.uvarintDec l = (v, (k : Int))) (hk : 0 < k) (hkn : k ≤ n)
    (r0 : w.cell? ⟨R, 0, none⟩ = some (.slice (some ⟨b, off, none⟩) n n)) (r1 : w.cell? ⟨R, 1, none⟩ = some .nilIface) (f0 : w.frozen? ⟨R, 0, none⟩ = false) :
    Calls Tryf.prog 15 #[.pointer (some ⟨R, 0, none⟩), .func (.func 16) #[] #[]] w fun e w' => e = .returned (.int .u64 v) ∧ ∃ a2 c2, w' = w.setCell ⟨R, 0, none⟩ (.slice a2 (n - k) c2) := by
  have i1 : (k : Int) ≤ (n : Int) := by omega
  have i2 : ¬ (k : Int) ≤ 0 := by omega
  have i3 : decide ((k : Int) ≤ 0) = false := decide_eq_false i2
  go_enter Tryf.func15, Tryf.ntmps15
  go_wp2_with fail
  refine (dec16 _ n n l _ hl hB).mono ?_
  rintro e w1 ⟨rfl, rfl⟩
  rw [hd]
  dsimp only
  go_wp2_with fail
  all_goals (go_ret; exact ⟨rfl, _, _, rfl⟩)

set_option maxHeartbeats 1000000 in
theorem read15_fail (R : Nat) (a : Option Addr) (n : Nat) (l : List UInt8) (err : Value) (w : World) (hl : l.length = n) (hB : Bs w a l) (hd : (Lib.uvarintDec l).2 ≤ 0)
    (r0 : w.cell? ⟨R, 0, none⟩ = some (.slice a n n)) (r1 : w.cell? ⟨R, 1, none⟩ = some .nilIface) (f0 : w.frozen? ⟨R, 0, none⟩ = false) (f1 : w.frozen? ⟨R, 1, none⟩ = false) (hg : w.cell? ⟨0, 0, none⟩ = some (.iface 49 err)) :
    Calls Tryf.prog 15 #[.pointer (some ⟨R, 0, none⟩), .func (.func 16) #[] #[]] w fun e w' => e = .returned (.int .u64 0) ∧ w' = (w.setCell ⟨R, 1, none⟩ (.iface 49 err)).setCell ⟨R, 0, none⟩ (.slice none 0 0) := by
  generalize hK : (Lib.uvarintDec l).2 = K at *
  have i3 : decide (K ≤ 0) = true := decide_eq_true hd
  go_enter Tryf.func15, Tryf.ntmps15
  go_wp2_with fail
  refine (dec16 _ n n l _ hl hB).mono ?_
  rintro e w1 ⟨rfl, rfl⟩
  rw [hK]
  go_wp2_with fail
  refine (fail18 R _ err _ r0 r1 f0 f1).mono ?_
  rintro e w2 ⟨rfl, rfl⟩
  go_wp2_with fail
  go_ret
  exact ⟨rfl, rfl⟩

theorem uvarint10_ok (R b off n : Nat) (l : List UInt8) (v k : Nat) (w : World) (hl : l.length = n) (hB : Bs w (some ⟨b, off, none⟩) l) (hd : Lib.uvarintDec l = (v, (k : Int))) (hk : 0 < k) (hkn : k ≤ n)
    (r0 : w.cell? ⟨R, 0, none⟩ = some (.slice (some ⟨b, off, none⟩) n n)) (r1 : w.cell? ⟨R, 1, none⟩ = some .nilIface) (f0 : w.frozen? ⟨R, 0, none⟩ = false) :
    Calls Tryf.prog 10 #[.pointer (some ⟨R, 0, none⟩)] w fun e w' => e = .returned (.int .u64 v) ∧ ∃ a2 c2, w' = w.setCell ⟨R, 0, none⟩ (.slice a2 (n - k) c2) := by
  go_enter Tryf.func10, Tryf.ntmps10
  go_wp2_with fail
  refine (read15_ok R b off n l v k _ hl hB hd hk hkn r0 r1 f0).mono ?_
  rintro e w1 ⟨rfl, a2, c2, rfl⟩
  go_wp2_with fail
  go_ret
  exact ⟨rfl, _, _, rfl⟩

theorem uvarint10_fail (R : Nat) (a : Option Addr) (n : Nat) (l : List UInt8) (err : Value) (w : World) (hl : l.length = n) (hB : Bs w a l) (hd : (Lib.uvarintDec l).2 ≤ 0)
    (r0 : w.cell? ⟨R, 0, none⟩ = some (.slice a n n)) (r1 : w.cell? ⟨R, 1, none⟩ = some .nilIface) (f0 : w.frozen? ⟨R, 0, none⟩ = false) (f1 : w.frozen? ⟨R, 1, none⟩ = false) (hg : w.cell? ⟨0, 0, none⟩ = some (.iface 49 err)) :
    Calls Tryf.prog 10 #[.pointer (some ⟨R, 0, none⟩)] w fun e w' => e = .returned (.int .u64 0) ∧ w' = (w.setCell ⟨R, 1, none⟩ (.iface 49 err)).setCell ⟨R, 0, none⟩ (.slice none 0 0) := by
  go_enter Tryf.func10, Tryf.ntmps10
  go_wp2_with fail
  refine (read15_fail R a n l err _ hl hB hd r0 r1 f0 f1 hg).mono ?_
  rintro e w1 ⟨rfl, rfl⟩
  go_wp2_with fail
  go_ret
  exact ⟨rfl, rfl⟩

/-- End of a reader that has not failed. -/
theorem end11_none (R : Nat) (a : Option Addr) (c : Nat) (w : World) (r0 : w.cell? ⟨R, 0, none⟩ = some (.slice a 0 c)) (r1 : w.cell? ⟨R, 1, none⟩ = some .nilIface) :
    Calls Tryf.prog 11 #[.pointer (some ⟨R, 0, none⟩)] w fun e w' => e = .returned .nilIface ∧ w' = w := by
  go_enter Tryf.func11, Tryf.ntmps11
  go_wp2_with fail
  go_ret
  exact ⟨rfl, rfl⟩

theorem end11_left (F : Interp) (R : Nat) (a : Option Addr) (n c : Nat) (w : World) (hF : F.answers w.tape) (hn : 0 < n) (hn2 : n ≤ 4194304) (r0 : w.cell? ⟨R, 0, none⟩ = some (.slice a n c)) (r1 : w.cell? ⟨R, 1, none⟩ = some .nilIface) :
    Calls Tryf.prog 11 #[.pointer (some ⟨R, 0, none⟩)] w fun e w' => (∃ p, e = .returned (.iface 49 p)) ∧ Below w.heap.size w w' := by
  have i1 : (0 : Int) < (n : Int) := by omega
  go_enter Tryf.func11, Tryf.ntmps11
  go_wp2_with fail
  refine (err17 F (n : Int) _ _ (by exact hF) ?_).mono ?_
  · rw [World.cell?_alloc_at (hn := rfl)]; rfl
  rintro e w1 ⟨rfl, t, rfl⟩
  go_wp2_with fail
  go_ret
  exact ⟨⟨_, rfl⟩, (((Below.refl _ _).alloc (Nat.le_refl _) _).alloc (by simp) _).drew⟩

/-- End of a reader that has failed. -/
theorem end11_fail (R : Nat) (err : Value) (w : World) (r1 : w.cell? ⟨R, 1, none⟩ = some (.iface 49 err)) :
    Calls Tryf.prog 11 #[.pointer (some ⟨R, 0, none⟩)] w fun e w' => e = .returned (.iface 49 err) ∧ w' = w := by
  go_enter Tryf.func11, Tryf.ntmps11
  go_wp2_with fail
  go_ret
  exact ⟨rfl, rfl⟩

end Go.Proofs.Qxb6616226aFmt
