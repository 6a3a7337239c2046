/-
  WALKS: the closure of cronValue (46), slices.IndexFunc (48), slices.ContainsFunc (45), cronValue (38).
-/
import Derived.Test.Qxb6616116aWd
namespace Go.Proofs.Qxb6616116a
open Go.RowKit

/-- The place of the first name that the text folds to, or -1. -/
def foldIdx (N : Nat → ByteArray) (n : Nat) (t : ByteArray) : Int := match ff (fun i => foldsB t (N i)) n with
  | some i => i
  | none => -1

theorem closure46 (x t : ByteArray) (m tb nb : Nat) (w : World) (ht : t.size ≤ maxLen) (hm : m ≤ t.size) (ct : w.cell? ⟨tb, 0, none⟩ = some (.string t)) (cn : w.cell? ⟨nb, 0, none⟩ = some (.int .i64 m)) :
    Calls Try.prog 46 #[.string x, .pointer (some ⟨tb, 0, none⟩), .pointer (some ⟨nb, 0, none⟩)] w fun e w' => e = .returned (.bool (foldsB (t.extract 0 m) x)) ∧ w = w' := by
  have i1 : (m : Int) ≤ (t.size : Int) := by omega
  have hs : (t.extract 0 m).size ≤ maxLen := by rw [ByteArray.size_extract]; omega
  go_enter Try.func46, Try.ntmps46
  go_wp2_with (go_at_call 47; refine (folds47 _ _ _ hs).mono ?_; rintro e w' ⟨rfl, rfl⟩)
  go_ret
  exact ⟨rfl, rfl⟩

set_option maxHeartbeats 400000 in
theorem indexFunc48 (a : Option Addr) (n c : Nat) (N : Nat → ByteArray) (t : ByteArray) (m tb nb : Nat) (w : World) (ht : t.size ≤ maxLen) (hm : m ≤ t.size) (hn : n ≤ maxLen) (hN : Ns w a n N)
    (ct : w.cell? ⟨tb, 0, none⟩ = some (.string t)) (cn : w.cell? ⟨nb, 0, none⟩ = some (.int .i64 m)) :
    Calls Try.prog 48 #[.slice a n c, .func (Fn.func 46) #[] #[.pointer (some ⟨tb, 0, none⟩), .pointer (some ⟨nb, 0, none⟩)]] w fun e w' => e = .returned (.int .i64 (foldIdx N n (t.extract 0 m))) ∧ w = w' := by
  have hn' := hn
  unfold maxLen at hn'
  go_enter Try.func48, Try.ntmps48
  go_wp2_with fail
  go_loop [8] (fun i => ∃ k : Nat, k ≤ n ∧ i = .int .i64 k ∧ ∀ j, j < k → foldsB (t.extract 0 m) (N j) = false) (fun i => n - (intOf i).toNat)
  case atStart => exact ⟨0, Nat.zero_le _, rfl, fun j hj => absurd hj (Nat.not_lt_zero _)⟩
  case round =>
    obtain ⟨k, hk, rfl, hpre⟩ := hrel
    have HP : Hid (∀ j, j < k → foldsB (t.extract 0 m) (N j) = false) := hpre
    clear hpre
    by_cases hlt : k < n
    · obtain ⟨b, off, rfl, hb, c0, l0⟩ := hN k hlt
      have i1 : (k : Int) < (n : Int) := by omega
      cases hf : foldsB (t.extract 0 m) (N k) with
      | true =>
        have HX : Hid (foldIdx N n (t.extract 0 m) = (k : Int)) := by show _ = _; unfold foldIdx; rw [ff_hit (p := fun i => foldsB (t.extract 0 m) (N i)) hlt hf HP.out]
        go_wp2_with (go_at_call 46; refine (closure46 (N k) t m tb nb _ ht hm ct cn).mono ?_; rintro e w' ⟨rfl, rfl⟩; rw [hf])
        go_ret
        exact ⟨ret_int HX.out.symm, rfl⟩
      | false =>
        go_wp2_with (go_at_call 46; refine (closure46 (N k) t m tb nb _ ht hm ct cn).mono ?_; rintro e w' ⟨rfl, rfl⟩; rw [hf])
        go_round
        case rel => exact ⟨k + 1, by omega, by go_num, fun j hj => by rcases Nat.lt_succ_iff_lt_or_eq.1 hj with h | rfl; exact HP.out j h; exact hf⟩
        case measure => simp [intOf]; omega
    · obtain rfl : k = n := by omega
      have HX : Hid (foldIdx N k (t.extract 0 m) = -1) := by show _ = _; unfold foldIdx; rw [ff_none HP.out]
      go_wp2_with fail
      go_ret
      exact ⟨ret_int HX.out.symm, rfl⟩

theorem contains45 (a : Option Addr) (n c : Nat) (N : Nat → ByteArray) (t : ByteArray) (m tb nb : Nat) (w : World) (ht : t.size ≤ maxLen) (hm : m ≤ t.size) (hn : n ≤ maxLen) (hN : Ns w a n N)
    (ct : w.cell? ⟨tb, 0, none⟩ = some (.string t)) (cn : w.cell? ⟨nb, 0, none⟩ = some (.int .i64 m)) :
    Calls Try.prog 45 #[.slice a n c, .func (Fn.func 46) #[] #[.pointer (some ⟨tb, 0, none⟩), .pointer (some ⟨nb, 0, none⟩)]] w fun e w' => e = .returned (.bool (ff (fun i => foldsB (t.extract 0 m) (N i)) n).isSome) ∧ w = w' := by
  cases hx : ff (fun i => foldsB (t.extract 0 m) (N i)) n with
  | some i =>
    have hid : foldIdx N n (t.extract 0 m) = (i : Int) := by unfold foldIdx; rw [hx]
    have hge : (0 : Int) ≤ (i : Int) := by omega
    clear hx
    go_enter Try.func45, Try.ntmps45
    go_wp2_with (go_at_call 48; refine (indexFunc48 a n c N t m tb nb _ ht hm hn hN ct cn).mono ?_; rintro e w' ⟨rfl, rfl⟩; rw [hid])
    go_ret
    exact ⟨rfl, rfl⟩
  | none =>
    have hid : foldIdx N n (t.extract 0 m) = -1 := by unfold foldIdx; rw [hx]
    clear hx
    go_enter Try.func45, Try.ntmps45
    go_wp2_with (go_at_call 48; refine (indexFunc48 a n c N t m tb nb _ ht hm hn hN ct cn).mono ?_; rintro e w' ⟨rfl, rfl⟩; rw [hid])
    go_ret
    exact ⟨rfl, rfl⟩

theorem ext_run (t : ByteArray) : (t.extract 0 (alLen t.data.toList)).data.toList = run t.data.toList := by
  rw [Lib.extract_data]
  simp [run]

theorem vok_run (N : Nat → ByteArray) (n : Nat) (t : ByteArray) : vok N n (run t.data.toList) = (numB (run t.data.toList) || (ff (fun i => foldsB (t.extract 0 (alLen t.data.toList)) (N i)) n).isSome) := by
  unfold vok
  have e : (⟨(run t.data.toList).toArray⟩ : ByteArray) = t.extract 0 (alLen t.data.toList) := bytes_ext (by rw [ext_run])
  rw [e]

set_option maxHeartbeats 400000 in
theorem cronValue38 (nm : ByteArray) (lo hi last : Int) (a : Option Addr) (n c : Nat) (day noWrap : Bool) (N : Nat → ByteArray) (t : ByteArray) (w : World) (ht : t.size ≤ 4194304) (hn : n ≤ 1048576) (hN : Ns w a n N) :
    Calls Try.prog 38 #[.agg #[.string nm, .int .i64 lo, .int .i64 hi, .int .i64 last, .slice a n c, .bool day, .nilFunc, .bool noWrap], .string t] w fun e w' =>
      e = .returned (.tuple #[.int .i64 (alLen t.data.toList : Nat), .bool (vok N n (run t.data.toList))]) ∧ Below w.heap.size w w' := by
  have htm : t.size ≤ maxLen := by unfold maxLen; omega
  have hal := alLen_le t.data.toList
  rw [Array.length_toList] at hal
  have hal' : alLen t.data.toList ≤ t.size := hal
  clear hal
  have i1 : ((alLen t.data.toList : Nat) : Int) ≤ (t.size : Int) := by omega
  have hnm : n ≤ maxLen := by unfold maxLen; omega
  have hN2 := fun o1 o2 q o3 => hN.below ((below_drewN (((Below.refl w.heap.size w).alloc (Nat.le_refl _) o1).alloc (by simp) o2) q).alloc (by simp; omega) o3)
  rw [vok_run]
  cases hb : numB (run t.data.toList) with
  | true =>
    go_enter Try.func38, Try.ntmps38
    go_wp2_with fail
    refine (alnum39 t _ htm).mono ?_
    rintro e w1 ⟨rfl, q1, rfl⟩
    go_wp2_with fail
    refine (number40 _ _ ?_).mono ?_
    · rw [ByteArray.size_extract]; unfold maxLen; omega
    rintro e w2 ⟨rfl, rfl⟩
    rw [ext_run, hb]
    go_wp2_with fail
    refine (contains45 a n c N t (alLen t.data.toList) _ _ _ htm hal' hnm (hN2 _ _ _ _) ?_ ?_).mono ?_
    · rw [World.cell?_alloc_lt _ _ _ (by simp)]
      show ((w.alloc _).alloc _).cell? _ = _
      rw [World.cell?_alloc_at (hn := by simp)]; rfl
    · rw [World.cell?_alloc_at (hn := by simp)]; rfl
    rintro e w3 ⟨rfl, rfl⟩
    go_wp2_with fail
    go_ret2
    exact ⟨rfl, (below_drewN (((Below.refl w.heap.size w).alloc (Nat.le_refl _) _).alloc (by simp) _) _).alloc (by simp; omega) _⟩
  | false =>
    go_enter Try.func38, Try.ntmps38
    go_wp2_with fail
    refine (alnum39 t _ htm).mono ?_
    rintro e w1 ⟨rfl, q1, rfl⟩
    go_wp2_with fail
    refine (number40 _ _ ?_).mono ?_
    · rw [ByteArray.size_extract]; unfold maxLen; omega
    rintro e w2 ⟨rfl, rfl⟩
    rw [ext_run, hb]
    go_wp2_with fail
    refine (contains45 a n c N t (alLen t.data.toList) _ _ _ htm hal' hnm (hN2 _ _ _ _) ?_ ?_).mono ?_
    · rw [World.cell?_alloc_lt _ _ _ (by simp)]
      show ((w.alloc _).alloc _).cell? _ = _
      rw [World.cell?_alloc_at (hn := by simp)]; rfl
    · rw [World.cell?_alloc_at (hn := by simp)]; rfl
    rintro e w3 ⟨rfl, rfl⟩
    go_wp2_with fail
    go_ret2
    exact ⟨rfl, (below_drewN (((Below.refl w.heap.size w).alloc (Nat.le_refl _) _).alloc (by simp) _) _).alloc (by simp; omega) _⟩

end Go.Proofs.Qxb6616116a
