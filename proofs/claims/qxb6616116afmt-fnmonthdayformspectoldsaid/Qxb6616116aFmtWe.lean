/-
  WALKS: (field).value (20).
-/
import Derived.Test.Qxb6616116aFmtWd
namespace Go.Proofs.Qxb6616116aFmt
open Go.RowKit Go.Extern.Stop Go.Stop Go.Extern

/-- What a field of bounds lo, hi and names N reads in t. -/
def valueOf (lo hi : Int) (N : Nat → ByteArray) (n : Nat) (t : ByteArray) : Option Int :=
  if t.size = 0 then none else match ff (fun i => foldsB t (N i)) n with
  | some i => some (wrap64 (lo + (i : Int)))
  | none => if numB t.data.toList = true then (if ((satVal t.data.toList : Nat) : Int) < lo ∨ hi < ((satVal t.data.toList : Nat) : Int) then none else some ((satVal t.data.toList : Nat) : Int)) else none

/-- A value and nil, or 0 and a new error whose text lies in memory. -/
def ValOut (w w' : World) (e : Ending) : Option Int → Prop
  | some v => e = .returned (.tuple #[.int .i64 v, .nilIface])
  | none => ∃ (b : Nat) (s : ByteArray), e = .returned (.tuple #[.int .i64 0, .iface 58 (.pointer (some ⟨b, 0, none⟩))]) ∧ w'.cell? ⟨b, 0, none⟩ = some (.string s) ∧ w.heap.size ≤ b ∧ b < w'.heap.size

set_option maxHeartbeats 1000000 in
theorem value20 (F : Interp) (nm : ByteArray) (lo hi last : Int) (a : Option Addr) (n c : Nat) (day noWrap : Bool) (N : Nat → ByteArray) (t : ByteArray) (w : World) (hF : F.answers w.tape) (ht : t.size ≤ maxLen) (hn : n ≤ maxLen) (hN : Ns w a n N) :
    Calls Tryf.prog 20 #[.agg #[.string nm, .int .i64 lo, .int .i64 hi, .int .i64 last, .slice a n c, .bool day, .nilFunc, .bool noWrap], .string t] w fun e w' => ValOut w w' e (valueOf lo hi N n t) ∧ Below w.heap.size w w' := by
  have hn' := hn
  unfold maxLen at hn'
  by_cases h0 : t.size = 0
  · have hb : t.toList.isEmpty = true := by rw [ByteArray.toList_eq, nil_of_size h0]; rfl
    have HX : Hid (valueOf lo hi N n t = none) := by show _ = _; unfold valueOf; rw [if_pos h0]
    clear h0
    go_enter Tryf.func20, Tryf.ntmps20
    go_wp2_with (go_at_call 25; refine (new25 _ _).mono ?_; rintro e w' ⟨rfl, rfl⟩)
    go_ret2
    refine ⟨?_, ((Below.refl _ _).alloc (Nat.le_refl _) _).alloc (by simp) _⟩
    rw [HX.out]
    exact ⟨w.heap.size + 1, _, rfl, by rw [World.cell?_alloc_at (hn := by simp)]; rfl, by omega, by simp⟩
  · have hb : t.toList.isEmpty = false := by rw [ByteArray.toList_eq]; exact nonempty_of_size h0
    have HV : Hid (valueOf lo hi N n t = match ff (fun i => foldsB t (N i)) n with
        | some i => some (wrap64 (lo + (i : Int)))
        | none => if numB t.data.toList = true then (if ((satVal t.data.toList : Nat) : Int) < lo ∨ hi < ((satVal t.data.toList : Nat) : Int) then none else some ((satVal t.data.toList : Nat) : Int)) else none) := by
      show _ = _; unfold valueOf; rw [if_neg h0]
    clear h0
    go_enter Tryf.func20, Tryf.ntmps20
    go_wp2_with fail
    go_loop [16] (fun i => ∃ k : Nat, k ≤ n ∧ i = .int .i64 k ∧ ∀ j, j < k → foldsB t (N j) = false) (fun i => n - (intOf i).toNat)
    case atStart => exact ⟨0, Nat.zero_le _, rfl, fun j hj => absurd hj (Nat.not_lt_zero _)⟩
    case round =>
      obtain ⟨k, hk, rfl, hpre⟩ := hrel
      have HP : Hid (∀ j, j < k → foldsB t (N j) = false) := hpre
      clear hpre
      by_cases hlt : k < n
      · obtain ⟨b, off, rfl, hlb, c0, l0⟩ := hN k hlt
        have i1 : (k : Int) < (n : Int) := by omega
        cases hf : foldsB t (N k) with
        | true =>
          have HX : Hid (valueOf lo hi N n t = some (wrap64 (lo + (k : Int)))) := by show _ = _; rw [HV.out, ff_hit (p := fun i => foldsB t (N i)) hlt hf HP.out]
          go_wp2_with (go_at_call 22; refine (folds22 t (N k) _ ht).mono ?_; rintro e w' ⟨rfl, rfl⟩; rw [hf])
          go_ret2
          exact ⟨by rw [HX.out]; rfl, (Below.refl _ _).alloc (Nat.le_refl _) _⟩
        | false =>
          go_wp2_with (go_at_call 22; refine (folds22 t (N k) _ ht).mono ?_; rintro e w' ⟨rfl, rfl⟩; rw [hf])
          go_round
          case rel => exact ⟨k + 1, by omega, by go_num, fun j hj => by rcases Nat.lt_succ_iff_lt_or_eq.1 hj with h | rfl; exact HP.out j h; exact hf⟩
          case measure => simp [intOf]; omega
      · obtain rfl : k = n := by omega
        have HW : Hid (valueOf lo hi N k t = if numB t.data.toList = true then (if ((satVal t.data.toList : Nat) : Int) < lo ∨ hi < ((satVal t.data.toList : Nat) : Int) then none else some ((satVal t.data.toList : Nat) : Int)) else none) := by
          show _ = _; rw [HV.out, ff_none HP.out]
        clear HV HP
        cases hnb : numB t.data.toList with
        | false =>
          have HX : Hid (valueOf lo hi N k t = none) := by show _ = _; rw [HW.out, hnb]; rfl
          clear HW
          cases a with
          | none =>
            go_wp2_with (first
              | (go_at_call 26; refine (number26 t _ ht).mono ?_; rintro e w' ⟨rfl, rfl⟩; rw [hnb])
              | (go_at_call 27; refine (errB F t _ _ (by exact hF) (by rw [World.cell?_alloc_at (hn := by simp)]; rfl)).mono ?_; rintro e w' ⟨rfl, tx, rfl⟩))
            go_ret2
            refine ⟨?_, ((((Below.refl _ _).alloc (Nat.le_refl _) _).alloc (by simp) _).alloc (by simp; omega) _).drew⟩
            rw [HX.out]
            exact ⟨w.heap.size + 1 + 1, tx, rfl, by rw [World.cell?_drew, World.cell?_alloc_at (hn := by simp)]; rfl, by omega, by simp⟩
          | some ad =>
            go_wp2_with (first
              | (go_at_call 26; refine (number26 t _ ht).mono ?_; rintro e w' ⟨rfl, rfl⟩; rw [hnb])
              | (go_at_call 27; refine (errA F t _ _ (by exact hF) (by rw [World.cell?_alloc_at (hn := by simp)]; rfl)).mono ?_; rintro e w' ⟨rfl, tx, rfl⟩))
            go_ret2
            refine ⟨?_, ((((Below.refl _ _).alloc (Nat.le_refl _) _).alloc (by simp) _).alloc (by simp; omega) _).drew⟩
            rw [HX.out]
            exact ⟨w.heap.size + 1 + 1, tx, rfl, by rw [World.cell?_drew, World.cell?_alloc_at (hn := by simp)]; rfl, by omega, by simp⟩
        | true =>
          have hv := numV_yes hnb
          have hsle := satVal_le t.data.toList
          by_cases hout : ((satVal t.data.toList : Nat) : Int) < lo ∨ hi < ((satVal t.data.toList : Nat) : Int)
          · have HX : Hid (valueOf lo hi N k t = none) := by show _ = _; rw [HW.out, hnb, if_pos rfl, if_pos hout]
            clear HW
            by_cases ho1 : ((satVal t.data.toList : Nat) : Int) < lo
            · clear hout
              go_wp2_with (first
                | (go_at_call 26; refine (number26 t _ ht).mono ?_; rintro e w' ⟨rfl, rfl⟩; rw [hnb, hv])
                | (go_at_call 27; refine (errC F t lo hi _ _ (by exact hF) (by rw [World.cell?_alloc_at (hn := by simp)]; rfl) (by rw [World.cell?_alloc_at (hn := by simp)]; rfl) (by rw [World.cell?_alloc_at (hn := by simp)]; rfl)).mono ?_; rintro e w' ⟨rfl, tx, rfl⟩))
              go_ret2
              refine ⟨?_, ((((Below.refl _ _).alloc (Nat.le_refl _) _).alloc (by simp) _).alloc (by simp; omega) _).drew⟩
              rw [HX.out]
              exact ⟨w.heap.size + 1 + 1, tx, rfl, by rw [World.cell?_drew, World.cell?_alloc_at (hn := by simp)]; rfl, by omega, by simp⟩
            · have ho2 : hi < ((satVal t.data.toList : Nat) : Int) := by omega
              clear hout
              go_wp2_with (first
                | (go_at_call 26; refine (number26 t _ ht).mono ?_; rintro e w' ⟨rfl, rfl⟩; rw [hnb, hv])
                | (go_at_call 27; refine (errC F t lo hi _ _ (by exact hF) (by rw [World.cell?_alloc_at (hn := by simp)]; rfl) (by rw [World.cell?_alloc_at (hn := by simp)]; rfl) (by rw [World.cell?_alloc_at (hn := by simp)]; rfl)).mono ?_; rintro e w' ⟨rfl, tx, rfl⟩))
              go_ret2
              refine ⟨?_, ((((Below.refl _ _).alloc (Nat.le_refl _) _).alloc (by simp) _).alloc (by simp; omega) _).drew⟩
              rw [HX.out]
              exact ⟨w.heap.size + 1 + 1, tx, rfl, by rw [World.cell?_drew, World.cell?_alloc_at (hn := by simp)]; rfl, by omega, by simp⟩
          · have HX : Hid (valueOf lo hi N k t = some ((satVal t.data.toList : Nat) : Int)) := by show _ = _; rw [HW.out, hnb, if_pos rfl, if_neg hout]
            clear HW
            have ho1 : ¬ ((satVal t.data.toList : Nat) : Int) < lo := by omega
            have ho2 : ¬ hi < ((satVal t.data.toList : Nat) : Int) := by omega
            clear hout
            go_wp2_with (go_at_call 26; refine (number26 t _ ht).mono ?_; rintro e w' ⟨rfl, rfl⟩; rw [hnb, hv])
            go_ret2
            exact ⟨by rw [HX.out]; rfl, (Below.refl _ _).alloc (Nat.le_refl _) _⟩

end Go.Proofs.Qxb6616116aFmt
