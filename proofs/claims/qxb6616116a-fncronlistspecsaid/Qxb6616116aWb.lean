/-
  WALKS: lowerASCII (32), swapCase (12).
-/
import Derived.Test.Qxb6616116aWa
namespace Go.Proofs.Qxb6616116a
open Go.RowKit

theorem Try.info5 : (Try.prog.info? 5).map (fun i => (i.zero, i.size, i.bytes)) = some (some (.int .u8 0), 1, 1) := by kernel_rfl

/-- The row of bytes when the first k have been laid. -/
def rowf (f : UInt8 → UInt8) (s : ByteArray) (k i : Nat) : Value := .int .u8 ((if i < k then (f (s.data.getD i 0)).toNat else 0 : Nat) : Int)

theorem getD_data (s : ByteArray) (k : Nat) (h : k < s.size) : s.data.getD k 0 = s[k] := by
  have h2 : k < s.data.size := h
  unfold Array.getD
  rw [dif_pos h2]
  rfl

theorem rowf_step (f : UInt8 → UInt8) (s : ByteArray) (k i : Nat) (h : k < s.size) (v : Int) (hv : v = ((f s[k]).toNat : Int)) : (if i = k then Value.int .u8 v else rowf f s k i) = rowf f s (k + 1) i := by
  unfold rowf
  by_cases e : i = k
  · subst e
    rw [if_pos rfl, if_pos (Nat.lt_succ_self _), getD_data s i h, hv]
  · rw [if_neg e]
    by_cases h1 : i < k
    · rw [if_pos h1, if_pos (by omega)]
    · rw [if_neg h1, if_neg (by omega)]

theorem rowf_zero (f : UInt8 → UInt8) (s : ByteArray) (i : Nat) : Value.int .u8 0 = rowf f s 0 i := by simp [rowf]

theorem conv_back (f : UInt8 → UInt8) (s : ByteArray) (g : Nat) (w : World) (h : w.rowIs g 5 s.size (rowf f s s.size)) :
    (convert 45 9 (.slice (some ⟨g, 0, none⟩) s.size s.size)).run Try.prog w = .ok (.string ⟨s.data.map f⟩) w := by
  have hl : (s.data.toList.map f).length = s.size := by simp
  have hr := run_convert_bytes_back (P := Try.prog) w 45 9 5 ⟨g, 0, none⟩ s.size (s.data.toList.map f) Try.underlying45 Try.underlying5 Try.underlying9 (fun j hj => by
    have hj' : j < s.size := by rw [hl] at hj; exact hj
    rw [Addr.add_lit, Nat.zero_add, h.cell hj']
    simp only [rowf, if_pos hj', getD_data s j hj', List.getElem_map]
    rfl)
  rw [hl] at hr
  rw [hr]
  congr 2
  exact bytes_ext (by simp)

theorem make45 (n : Nat) (hn : n ≤ 4194304) (w : World) :
    (Instr.makeSlice 45 (.int .i64 (n : Int)) (.int .i64 (n : Int))).run Try.prog w = .ok (.slice (some ⟨w.heap.size, 0, none⟩) n n) (w.alloc (.cells (madeCells #[.int .u8 0] n) 5)) :=
  run_make_row' (P := Try.prog) 45 5 (.int .u8 0) 1 Try.underlying45 Try.info5 rfl .i64 .i64 n (by omega) (by omega) w

set_option maxHeartbeats 1000000 in
theorem lower32 (s : ByteArray) (w : World) (hs : s.size ≤ 4194304) : Calls Try.prog 32 #[.string s] w fun e w' => e = .returned (.string (lowS s)) ∧ Below w.heap.size w w' := by
  have hmk := make45 s.size hs
  go_enter Try.func32, Try.ntmps32
  go_wp2
  go_loopw [4] (fun i wr => ∃ k : Nat, k ≤ s.size ∧ i = .int .i64 k ∧ Below w.heap.size w wr ∧ wr.rowIs w.heap.size 5 s.size (rowf lo s k)) (fun i _ => s.size - (intOf i).toNat)
  case atStart => exact ⟨0, Nat.zero_le _, rfl, (Below.refl _ _).alloc (Nat.le_refl _) _, (World.rowIs_made w (.int .u8 0) s.size 5).congr fun i _ => rowf_zero lo s i⟩
  case round =>
    obtain ⟨k, hk, rfl, hbe, hrow⟩ := hrel
    by_cases hlt : k < s.size
    · have d1 := hrow.cell hlt
      have e1 := hrow.frozen k
      have hlo := lo_nat s[k]
      have HL : Hid ((lo s[k]).toNat = if 65 ≤ s[k].toNat ∧ s[k].toNat ≤ 90 then s[k].toNat + 32 else s[k].toNat) := hlo
      clear hlo
      go_wp2
      all_goals
        go_roundw
        case rel => exact ⟨k + 1, by omega, by go_num, hbe.setCell (p := ⟨w.heap.size, k, none⟩) (Nat.le_refl _) _, (hrow.set k _).congr fun i _ => rowf_step lo s k i hlt _ (by rw [HL.out]; split <;> omega)⟩
        case measure => simp [intOf]; omega
    · obtain rfl : k = s.size := by omega
      have hcv := conv_back lo s w.heap.size wr hrow
      go_wp2
      go_ret
      exact ⟨rfl, hbe⟩

set_option maxHeartbeats 1000000 in
theorem swap12 (s : ByteArray) (w : World) (hs : s.size ≤ 4194304) : Calls Try.prog 12 #[.string s] w fun e w' => e = .returned (.string (swpS s)) ∧ Below w.heap.size w w' := by
  have hmk := make45 s.size hs
  go_enter Try.func12, Try.ntmps12
  go_wp2
  go_loopw [4] (fun i wr => ∃ k : Nat, k ≤ s.size ∧ i = .int .i64 k ∧ Below w.heap.size w wr ∧ wr.rowIs w.heap.size 5 s.size (rowf sw s k)) (fun i _ => s.size - (intOf i).toNat)
  case atStart => exact ⟨0, Nat.zero_le _, rfl, (Below.refl _ _).alloc (Nat.le_refl _) _, (World.rowIs_made w (.int .u8 0) s.size 5).congr fun i _ => rowf_zero sw s i⟩
  case round =>
    obtain ⟨k, hk, rfl, hbe, hrow⟩ := hrel
    by_cases hlt : k < s.size
    · have d1 := hrow.cell hlt
      have e1 := hrow.frozen k
      have hlo := sw_nat s[k]
      have HL : Hid ((sw s[k]).toNat = if 65 ≤ s[k].toNat ∧ s[k].toNat ≤ 90 then s[k].toNat + 32 else if 97 ≤ s[k].toNat ∧ s[k].toNat ≤ 122 then s[k].toNat - 32 else s[k].toNat) := hlo
      clear hlo
      go_wp2
      all_goals
        go_roundw
        case rel => exact ⟨k + 1, by omega, by go_num, hbe.setCell (p := ⟨w.heap.size, k, none⟩) (Nat.le_refl _) _, (hrow.set k _).congr fun i _ => rowf_step sw s k i hlt _ (by rw [HL.out]; split <;> (try split) <;> omega)⟩
        case measure => simp [intOf]; omega
    · obtain rfl : k = s.size := by omega
      have hcv := conv_back sw s w.heap.size wr hrow
      go_wp2
      go_ret
      exact ⟨rfl, hbe⟩

end Go.Proofs.Qxb6616116a
