/-
  WALKS: binary.Uvarint (16) and binary.AppendUvarint (14) off the shelf; zzBytes (5, 12), zzCopy (6), zzUvarintLen (8).
-/
import Derived.Test.Qxb6616226aFmtRows
import Derived.Test.Qxb6616226aFmtPlain
import Derived.Shelf.Bin.AppendUvarint
import Derived.Shelf.Bin.Uvarint
import Derived.Shelf.Bin.UvarintEmpty
import Derived.Shelf.Lay
import Derived.Ground.MnProg
import Derived.WalkKit
import Derived.WalkSpells
import Derived.WalkLawsBesides
import Derived.Lib.SliceRun
import Derived.Lib.LazyBuf
import Derived.Laws.IdiomCopy
namespace Go.Proofs
open Go.Shelf
shelf_lay LaysBin.n45 Mn 45 at Tryf as Tryf.laysVar45
shelf_lay LaysBin.n47 Mn 47 at Tryf as Tryf.laysVar47
end Go.Proofs
namespace Go.Proofs.Qxb6616226aFmt
open Go.RowKit

theorem dec16_some (g o n c : Nat) (l : List UInt8) (w : World) (hl : l.length = n) (hcell : ∀ j (hj : j < l.length), w.cell? ⟨g, o + j, none⟩ = some (.int .u8 (l[j]).toNat)) :
    Calls Tryf.prog 16 #[.slice (some ⟨g, o, none⟩) n c] w fun e w' => e = .returned (.tuple #[.int .u64 (Lib.uvarintDec l).1, .int .i64 (Lib.uvarintDec l).2]) ∧ w' = w := Any.binary_Uvarint Tryf.laysVar45 g o n c l w hl hcell

theorem dec16_none (a : Option Addr) (c : Nat) (w : World) :
    Calls Tryf.prog 16 #[.slice a 0 c] w fun e w' => e = .returned (.tuple #[.int .u64 (Lib.uvarintDec []).1, .int .i64 (Lib.uvarintDec []).2]) ∧ w' = w := Any.binary_Uvarint_empty Tryf.laysVar45 a c w

/-- A slice of bytes that reads as l. -/
def Bs (w : World) (a : Option Addr) (l : List UInt8) : Prop := ∀ j (hj : j < l.length), ∃ b off, a = some (⟨b, off, none⟩ : Addr) ∧ b < w.heap.size ∧ w.cell? ⟨b, off + j, none⟩ = some (.int .u8 (l[j].toNat))

theorem Bs.below {w w' : World} {a : Option Addr} {l : List UInt8} (h : Bs w a l) (hb : Below w.heap.size w w') : Bs w' a l := fun j hj => by
  obtain ⟨b, off, ha, hlt, hc⟩ := h j hj
  exact ⟨b, off, ha, Nat.lt_of_lt_of_le hlt hb.size, by rw [hb.cell (p := ⟨b, off + j, none⟩) hlt]; exact hc⟩

theorem Bs.some {w : World} {a : Option Addr} {l : List UInt8} (h : Bs w a l) (hl : 0 < l.length) : ∃ b off, a = some (⟨b, off, none⟩ : Addr) ∧ b < w.heap.size ∧ ∀ j (hj : j < l.length), w.cell? ⟨b, off + j, none⟩ = some (.int .u8 (l[j].toNat)) := by
  obtain ⟨b, off, rfl, hb, _⟩ := h 0 hl
  refine ⟨b, off, rfl, hb, fun j hj => ?_⟩
  obtain ⟨b', off', e, _, hc⟩ := h j hj
  cases e
  exact hc

theorem dec16 (a : Option Addr) (n c : Nat) (l : List UInt8) (w : World) (hl : l.length = n) (hB : Bs w a l) :
    Calls Tryf.prog 16 #[.slice a n c] w fun e w' => e = .returned (.tuple #[.int .u64 (Lib.uvarintDec l).1, .int .i64 (Lib.uvarintDec l).2]) ∧ w' = w := by
  by_cases h0 : 0 < l.length
  · obtain ⟨b, off, rfl, _, hc⟩ := hB.some h0
    exact dec16_some b off n c l w hl hc
  · obtain rfl : l = [] := List.length_eq_zero_iff.1 (by omega)
    obtain rfl : n = 0 := hl.symm
    exact dec16_none a c w

def ABool (e : Ending) : Prop := ∃ r : Bool, e = .returned (.bool r)

theorem bytes12 (a : Option Addr) (n c : Nat) (w : World) (hn : n ≤ maxLen) : Calls Tryf.prog 12 #[.slice a n c] w fun e w' => ABool e ∧ w = w' := by
  unfold maxLen at hn
  by_cases q0 : (1048576 : Int) < (n : Int)
  · go_enter Tryf.func12, Tryf.ntmps12
    go_wp2
    go_ret
    exact ⟨⟨false, rfl⟩, rfl⟩
  · have p0 : decide ((1048576 : Int) < (n : Int)) = false := decide_eq_false q0
    go_enter Tryf.func12, Tryf.ntmps12
    go_wp2
    go_ret
    exact ⟨⟨true, rfl⟩, rfl⟩

theorem bytes5 (a : Option Addr) (n c : Nat) (s : ByteArray) (w : World) (hn : n ≤ maxLen) (hs : s.size ≤ maxLen) : Calls Tryf.prog 5 #[.slice a n c, .string s] w fun e w' => ABool e ∧ w = w' := by
  unfold maxLen at hn hs
  by_cases q0 : (1048576 : Int) < (n : Int)
  · go_enter Tryf.func5, Tryf.ntmps5
    go_wp2
    go_ret
    exact ⟨⟨false, rfl⟩, rfl⟩
  by_cases q1 : (1048576 : Int) < (s.size : Int)
  · go_enter Tryf.func5, Tryf.ntmps5
    go_wp2
    go_ret
    exact ⟨⟨false, rfl⟩, rfl⟩
  by_cases q2 : (1048576 : Int) < (n : Int) + (s.size : Int)
  · go_enter Tryf.func5, Tryf.ntmps5
    go_wp2
    go_ret
    exact ⟨⟨false, rfl⟩, rfl⟩
  have p0 : decide ((1048576 : Int) < (n : Int)) = false := decide_eq_false q0
  have p1 : decide ((1048576 : Int) < (s.size : Int)) = false := decide_eq_false q1
  have p2 : decide ((1048576 : Int) < (n : Int) + (s.size : Int)) = false := decide_eq_false q2
  go_enter Tryf.func5, Tryf.ntmps5
  go_wp2
  go_ret
  exact ⟨⟨true, rfl⟩, rfl⟩

/-! ### zzCopy -/
theorem Tryf.info5 : (Tryf.prog.info? 5).map (fun i => (i.zero, i.size, i.bytes)) = some (some (.int .u8 0), 1, 1) := by kernel_rfl
theorem Tryf.size5 : (Tryf.prog.info? 5).map (·.size) = some 1 := by kernel_rfl

theorem make22 (n : Nat) (hn : n ≤ 4194304) (w : World) :
    (Instr.makeSlice 22 (.int .i64 (n : Int)) (.int .i64 (n : Int))).run Tryf.prog w = .ok (.slice (some ⟨w.heap.size, 0, none⟩) n n) (w.alloc (.cells (madeCells #[.int .u8 0] n) 5)) :=
  run_make_row' (P := Tryf.prog) 22 5 (.int .u8 0) 1 Tryf.underlying22 Tryf.info5 rfl .i64 .i64 n (by omega) (by omega) w

theorem nil22 (a : Option Addr) (n c : Nat) (w : World) : (binOp .eql 22 (.slice a n c) (.slice none 0 0)).run Tryf.prog w = .ok (.bool a.isNone) w :=
  Lib.run_eql_slice_nil w 22 5 a n c 0 0 Tryf.underlying22

/-- l's bytes as cells. -/
def bcs (l : List UInt8) : List Value := l.map fun b => .int .u8 (b.toNat : Int)
theorem bcs_length (l : List UInt8) : (bcs l).length = l.length := by simp [bcs]
theorem bcs_get {l : List UInt8} {j : Nat} {v : Value} (h : (bcs l)[j]? = some v) : ∃ hj : j < l.length, v = .int .u8 (l[j].toNat) := by
  unfold bcs at h
  rw [List.getElem?_map, Option.map_eq_some_iff] at h
  obtain ⟨b, hb, rfl⟩ := h
  obtain ⟨hj, rfl⟩ := List.getElem?_eq_some_iff.1 hb
  exact ⟨hj, rfl⟩

def byteAt (l : List UInt8) (i : Nat) : Value := (bcs l)[i]?.getD default
theorem byteAt_lt {l : List UInt8} {i : Nat} (h : i < l.length) : byteAt l i = .int .u8 (l[i].toNat) := by
  unfold byteAt bcs
  rw [List.getElem?_map, List.getElem?_eq_getElem h]
  rfl

set_option maxHeartbeats 1000000 in
theorem copy6_some (ad : Addr) (n c : Nat) (l : List UInt8) (w : World) (hn : n ≤ 4194304) (hl : l.length = n) (hB : Bs w (some ad) l) :
    Calls Tryf.prog 6 #[.slice (some ad) n c] w fun e w' => e = .returned (.slice (some ⟨w.heap.size, 0, none⟩) n n) ∧ Below w.heap.size w w' ∧ w'.rowIs w.heap.size 5 n (byteAt l) := by
  have hmk := make22 n hn
  have hnil := nil22 (some ad) n c
  have hrow := World.rowIs_made w (.int .u8 0) n 5
  have hcp : ∀ ty, (Builtin.copy_ #[22, 22] ty #[.slice (some ⟨w.heap.size, 0, none⟩) n n, .slice (some ad) n c]).run Tryf.prog (w.alloc (.cells (madeCells #[.int .u8 0] n) 5)) = .ok (goInt n) ((w.alloc (.cells (madeCells #[.int .u8 0] n) 5)).setCells w.heap.size 0 (bcs l)) := fun ty => by
    have h := run_copy_cells (P := Tryf.prog) (w.alloc (.cells (madeCells #[.int .u8 0] n) 5)) 22 22 ty 5 w.heap.size 0 n n ad n c (bcs l) Tryf.underlying22 Tryf.size5 (by rw [bcs_length, hl]; simp)
      (fun j v hv => by
        obtain ⟨hj, rfl⟩ := bcs_get hv
        obtain ⟨b, off, e, hb, hc⟩ := hB j hj
        cases e
        rw [Addr.add_lit, World.cell?_alloc_lt _ _ _ (by exact hb)]
        exact hc)
      (fun j hj => by rw [bcs_length, hl] at hj; rw [Nat.zero_add, hrow.cell hj]; rfl)
      (fun j _ => by rw [Nat.zero_add]; exact hrow.frozen j)
      (fun v hv => by unfold bcs at hv; obtain ⟨b, _, rfl⟩ := List.mem_map.1 hv; rfl)
    rw [bcs_length, hl] at h
    exact h
  go_enter Tryf.func6, Tryf.ntmps6
  go_wp2
  go_ret
  refine ⟨rfl, Go.below_setCells (Nat.le_refl _) _ _ _ ((Below.refl _ _).alloc (Nat.le_refl _) _), ?_⟩
  refine (Go.rowIs_setCells (bcs l) 0 _ _ hrow).congr fun i hi => ?_
  rw [if_pos ⟨Nat.zero_le _, by rw [bcs_length]; omega⟩]
  rfl

/-- What zzCopy hands back. -/
def CopyOut (w w' : World) (e : Ending) (n : Nat) (l : List UInt8) : Prop :=
  (n = 0 ∧ e = .returned (.slice none 0 0) ∧ w' = w) ∨ (e = .returned (.slice (some ⟨w.heap.size, 0, none⟩) n n) ∧ Below w.heap.size w w' ∧ w'.rowIs w.heap.size 5 n (byteAt l))

theorem copy6 (a : Option Addr) (n c : Nat) (l : List UInt8) (w : World) (hn : n ≤ 4194304) (hl : l.length = n) (hB : Bs w a l) (ha : a = none → n = 0 ∧ c = 0) :
    Calls Tryf.prog 6 #[.slice a n c] w fun e w' => CopyOut w w' e n l := by
  cases a with
  | some ad => exact (copy6_some ad n c l w hn hl hB).mono fun e w' h => .inr h
  | none =>
    obtain ⟨rfl, rfl⟩ := ha rfl
    have hnil := nil22 none 0 0
    go_enter Tryf.func6, Tryf.ntmps6
    go_wp2
    go_ret
    exact .inl ⟨rfl, rfl, rfl⟩

theorem rowIs_bs {w : World} {b n : Nat} {l : List UInt8} (h : w.rowIs b 5 n (byteAt l)) (hl : l.length = n) : Bs w (some ⟨b, 0, none⟩) l := fun j hj =>
  ⟨b, 0, rfl, h.lt, by rw [Nat.zero_add, h.cell (by omega), byteAt_lt hj]⟩

/-- The same, by its bytes alone. -/
theorem CopyOut.bs {w w' : World} {e : Ending} {n : Nat} {l : List UInt8} (h : CopyOut w w' e n l) (hl : l.length = n) : ∃ a, e = .returned (.slice a n n) ∧ (a = none → n = 0 ∧ n = 0) ∧ Below w.heap.size w w' ∧ Bs w' a l := by
  rcases h with ⟨rfl, rfl, rfl⟩ | ⟨rfl, hb, hr⟩
  · exact ⟨none, rfl, fun _ => ⟨rfl, rfl⟩, Below.refl _ _, fun j hj => by omega⟩
  · exact ⟨_, rfl, fun h => (by cases h), hb, rowIs_bs hr hl⟩

/-! ### zzUvarintLen -/
theorem ret_int {k : IntKind} {a b : Int} (h : a = b) : Ending.returned (.int k a) = .returned (.int k b) := by rw [h]

set_option maxHeartbeats 1000000 in
theorem len8 (x : Nat) (hx : x < 18446744073709551616) (w : World) : Calls Tryf.prog 8 #[.int .u64 x] w fun e w' => e = .returned (.int .i64 ((Lib.uvarint x).length : Nat)) ∧ w = w' := by
  have h10 := Lib.uvarint_length64 hx
  generalize hR : (Lib.uvarint x).length = R at *
  go_enter Tryf.func8, Tryf.ntmps8
  go_wp2
  go_loop [0, 3] (fun vx vk => ∃ y k : Nat, y ≤ x ∧ vx = .int .u64 y ∧ vk = .int .i64 k ∧ k + (Lib.uvarint y).length = R + 1 ∧ k ≤ 10) (fun vx _ => (intOf vx).toNat)
  case atStart => exact ⟨x, 1, Nat.le_refl _, rfl, rfl, by omega, by omega⟩
  case round =>
    obtain ⟨y, k, hy, rfl, rfl, hk, hk10⟩ := hrel
    have HK : Hid (k + (Lib.uvarint y).length = R + 1) := hk
    clear hk
    by_cases h128 : 128 ≤ y
    · have i1 : (128 : Int) ≤ (y : Int) := by omega
      have hb := Lib.uvarint_big h128
      have hp := Lib.uvarint_pos (y / 128)
      have HB : Hid (Lib.uvarint y = (y % 128 + 128).toUInt8 :: Lib.uvarint (y / 128)) := hb
      clear hb
      go_wp2
      go_round
      case rel =>
        have h1 := HK.out
        rw [HB.out, List.length_cons] at h1
        exact ⟨y / 128, k + 1, by omega, by go_num, by go_num, by omega, by omega⟩
      case measure => simp [intOf]; omega
    · have i1 : ¬ (128 : Int) ≤ (y : Int) := by omega
      have i2 : decide ((128 : Int) ≤ (y : Int)) = false := decide_eq_false i1
      have hs := Lib.uvarint_small (x := y) (by omega)
      have HS : Hid (Lib.uvarint y = [y.toUInt8]) := hs
      clear hs
      go_wp2
      go_ret
      have h1 := HK.out
      rw [HS.out, List.length_singleton] at h1
      exact ⟨ret_int (by omega), rfl⟩

end Go.Proofs.Qxb6616226aFmt
