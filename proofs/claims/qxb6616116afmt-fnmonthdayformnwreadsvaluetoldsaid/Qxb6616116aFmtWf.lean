/-
  WALKS: cutLetter (23), (field).formValue (24), ZZfieldValue (13), monthDayForm (18), ZZmonthDayForm (9).
-/
import Derived.Test.Qxb6616116aFmtWe
import Derived.Deep.QuietTactic
import Derived.BigQuiet
import Derived.WalkSmall
namespace Go.Proofs.Qxb6616116aFmt
open Go.RowKit Go.Extern.Stop Go.Stop Go.Extern

/-- The text ends in the letter w, in either case. -/
def endW (t : ByteArray) : Bool := foldsB (t.extract (t.size - 1) t.size) ⟨#[119]⟩

theorem cut23_no0 (t l : ByteArray) (w : World) (h0 : t.size = 0) : Calls Tryf.prog 23 #[.string t, .string l] w fun e w' => e = .returned (.tuple #[.string t, .bool false]) ∧ w = w' := by
  have hz : ((t.size : Nat) : Int) - 1 < 0 := by omega
  go_enter Tryf.func23, Tryf.ntmps23
  go_wp2
  go_ret2
  exact ⟨rfl, rfl⟩

theorem ext_le (t : ByteArray) (a b : Nat) (h : t.size ≤ maxLen) : (t.extract a b).size ≤ maxLen := by
  have : (t.extract a b).size ≤ t.size := by rw [ByteArray.size_extract]; omega
  omega

set_option maxHeartbeats 400000 in
theorem cut23 (t : ByteArray) (w : World) (ht : t.size ≤ maxLen) (h0 : ¬ t.size = 0) :
    Calls Tryf.prog 23 #[.string t, .string ⟨#[119]⟩] w fun e w' => e = .returned (.tuple #[.string (if endW t then t.extract 0 (t.size - 1) else t), .bool (endW t)]) ∧ w = w' := by
  have ht' := ht
  unfold maxLen at ht'
  have hz : ¬ ((t.size : Nat) : Int) - 1 < 0 := by omega
  have hy : (0 : Int) ≤ ((t.size : Nat) : Int) - 1 := by omega
  have hx : ((t.size : Nat) : Int) - 1 ≤ ((t.size : Nat) : Int) := by omega
  have hs : (t.extract (t.size - 1) t.size).size ≤ maxLen := ext_le t _ _ ht
  cases he : endW t with
  | true =>
    unfold endW at he
    go_enter Tryf.func23, Tryf.ntmps23
    go_wp2_with (go_at_call 22; refine (folds22 _ _ _ hs).mono ?_; rintro e w' ⟨rfl, rfl⟩; rw [he])
    go_ret2
    exact ⟨rfl, rfl⟩
  | false =>
    unfold endW at he
    go_enter Tryf.func23, Tryf.ntmps23
    go_wp2_with (go_at_call 22; refine (folds22 _ _ _ hs).mono ?_; rintro e w' ⟨rfl, rfl⟩; rw [he])
    go_ret2
    exact ⟨rfl, rfl⟩

/-- A value and nil, or 0 and some error. -/
def FormOut (e : Ending) : Option Int → Prop
  | some v => e = .returned (.tuple #[.int .i64 v, .nilIface])
  | none => ∃ p : Value, e = .returned (.tuple #[.int .i64 0, .iface 62 p])

set_option maxHeartbeats 400000 in
theorem form24 (F : Interp) (nm : ByteArray) (lo hi last : Int) (a : Option Addr) (n c : Nat) (day noWrap : Bool) (N : Nat → ByteArray) (t l : ByteArray) (w : World) (hF : F.answers w.tape) (ht : t.size ≤ maxLen) (hn : n ≤ maxLen) (hN : Ns w a n N) :
    Calls Tryf.prog 24 #[.agg #[.string nm, .int .i64 lo, .int .i64 hi, .int .i64 last, .slice a n c, .bool day, .nilFunc, .bool noWrap], .string t, .string l] w fun e w' => FormOut e (valueOf lo hi N n t) ∧ Below w.heap.size w w' := by
  have hN1 := fun o => hN.below ((Below.refl w.heap.size w).alloc (Nat.le_refl _) o)
  cases hv : valueOf lo hi N n t with
  | some v =>
    go_enter Tryf.func24, Tryf.ntmps24
    go_wp2_with fail
    refine (value20 F nm lo hi last a n c day noWrap N t _ (by exact hF) ht hn (hN1 _)).mono ?_
    rintro e w1 ⟨ho, hb⟩
    rw [hv] at ho
    obtain rfl := ho
    go_wp2_with fail
    go_ret2
    exact ⟨rfl, ((Below.refl _ _).alloc (Nat.le_refl _) _).trans (hb.mono (by simp))⟩
  | none =>
    go_enter Tryf.func24, Tryf.ntmps24
    go_wp2_with fail
    refine (value20 F nm lo hi last a n c day noWrap N t _ (by exact hF) ht hn (hN1 _)).mono ?_
    rintro e w1 ⟨ho, hb⟩
    rw [hv] at ho
    obtain ⟨b, s, rfl, hc, hb1, hb2⟩ := ho
    have hcn : w1.cell? ⟨w.heap.size, 0, none⟩ = some (.string nm) := by
      rw [hb.cell (p := ⟨w.heap.size, 0, none⟩) (by simp)]
      rw [World.cell?_alloc_at (hn := rfl)]; rfl
    have hF1 : F.answers w1.tape := by rw [hb.tape]; exact hF
    have hne : w1.heap.size ≠ b := by omega
    go_wp2_with fail
    refine (errD F l nm ⟨b, 0, none⟩ s w1.heap.size _ (by exact hF1) (by rw [World.cell?_alloc_at (hn := rfl)]; rfl) (by rw [World.cell?_alloc_at (hn := rfl)]; rfl) (by rw [World.cell?_alloc_at (hn := rfl)]; rfl) (by rw [World.cell?_alloc_lt _ _ _ (by exact hb2)]; exact hc)).mono ?_
    rintro e w2 ⟨rfl, tx, rfl⟩
    go_wp2_with fail
    go_ret2
    have hbw : Below w.heap.size w w1 := ((Below.refl _ _).alloc (Nat.le_refl _) _).trans (hb.mono (by simp))
    exact ⟨⟨_, rfl⟩, ((hbw.alloc hbw.size _).alloc (by have := hbw.size; simp; omega) _).drew⟩

set_option maxHeartbeats 400000 in
theorem fieldValue13 (F : Interp) (nm : ByteArray) (lo hi last : Int) (a : Option Addr) (n c : Nat) (day noWrap : Bool) (N : Nat → ByteArray) (t : ByteArray) (w : World) (hF : F.answers w.tape) (ht : t.size ≤ maxLen) (hn : n ≤ maxLen) (hN : Ns w a n N) :
    Calls Tryf.prog 13 #[.agg #[.string nm, .int .i64 lo, .int .i64 hi, .int .i64 last, .slice a n c, .bool day, .nilFunc, .bool noWrap], .string t] w fun e w' =>
      (∃ r : Value, e = .returned (.tuple #[.int .i64 ((valueOf lo hi N n t).getD 0), r]) ∧ ((valueOf lo hi N n t).isSome = true → r = .nilIface) ∧ ((valueOf lo hi N n t).isSome = false → ∃ p, r = .iface 58 p)) ∧ Below w.heap.size w w' := by
  have hN1 := fun o => hN.below ((Below.refl w.heap.size w).alloc (Nat.le_refl _) o)
  cases hv : valueOf lo hi N n t with
  | some v =>
    go_enter Tryf.func13, Tryf.ntmps13
    go_wp2_with fail
    refine (value20 F nm lo hi last a n c day noWrap N t _ (by exact hF) ht hn (hN1 _)).mono ?_
    rintro e w1 ⟨ho, hb⟩
    rw [hv] at ho
    obtain rfl := ho
    go_wp2_with fail
    go_ret2
    exact ⟨⟨_, rfl, fun _ => rfl, fun h => by simp at h⟩, ((Below.refl _ _).alloc (Nat.le_refl _) _).trans (hb.mono (by simp))⟩
  | none =>
    go_enter Tryf.func13, Tryf.ntmps13
    go_wp2_with fail
    refine (value20 F nm lo hi last a n c day noWrap N t _ (by exact hF) ht hn (hN1 _)).mono ?_
    rintro e w1 ⟨ho, hb⟩
    rw [hv] at ho
    obtain ⟨b, s, rfl, hc, hb1, hb2⟩ := ho
    go_wp2_with fail
    go_ret2
    exact ⟨⟨_, rfl, fun h => by simp at h, fun _ => ⟨_, rfl⟩⟩, ((Below.refl _ _).alloc (Nat.le_refl _) _).trans (hb.mono (by simp))⟩

theorem bcell {W w1 : World} (hb : Below W.heap.size W w1) : (∀ b o, b < W.heap.size → w1.cell? ⟨b, o, none⟩ = W.cell? ⟨b, o, none⟩) ∧ (∀ b o, b < W.heap.size → w1.frozen? ⟨b, o, none⟩ = W.frozen? ⟨b, o, none⟩) :=
  ⟨fun b o h => hb.cell (p := ⟨b, o, none⟩) h, fun b o h => hb.frozen (p := ⟨b, o, none⟩) h⟩

/-- What a term of the day of month reads as: kind, number, and whether it fails. -/
structure Form where
  kind : Int
  num : Int
  bad : Bool

def formOf (lo hi : Int) (N : Nat → ByteArray) (n : Nat) (t : ByteArray) : Form :=
  if foldsB t ⟨#[108]⟩ = true then ⟨1, 0, false⟩ else if foldsB t ⟨#[108, 119]⟩ = true then ⟨2, 0, false⟩ else
  if t.size = 0 then ⟨0, 0, false⟩ else if endW t = true then match valueOf lo hi N n (t.extract 0 (t.size - 1)) with
    | some v => ⟨3, v, false⟩
    | none => ⟨0, 0, true⟩
  else ⟨0, 0, false⟩

/-- An error's value: nil or not. -/
def ErrV (r : Value) (bad : Bool) : Prop := (bad = false ∧ r = .nilIface) ∨ (bad = true ∧ ∃ p, r = .iface 62 p)

set_option maxHeartbeats 1000000 in
theorem monthDay18 (F : Interp) (nm : ByteArray) (lo hi last : Int) (a : Option Addr) (n c : Nat) (day noWrap : Bool) (N : Nat → ByteArray) (t : ByteArray) (w : World) (hF : F.answers w.tape) (ht : t.size ≤ maxLen) (hn : n ≤ maxLen) (hN : Ns w a n N) :
    Calls Tryf.prog 18 #[.string t, .agg #[.string nm, .int .i64 lo, .int .i64 hi, .int .i64 last, .slice a n c, .bool day, .nilFunc, .bool noWrap]] w fun e w' =>
      (∃ r, e = .returned (.tuple #[.agg #[.int .u8 (formOf lo hi N n t).kind, .int .i64 (formOf lo hi N n t).num, .int .i64 0], r]) ∧ ErrV r (formOf lo hi N n t).bad) ∧ Below w.heap.size w w' := by
  generalize hfo : formOf lo hi N n t = fo
  unfold formOf at hfo
  cases h1 : foldsB t ⟨#[108]⟩ with
  | true =>
    rw [h1, if_pos rfl] at hfo
    subst hfo
    go_enter Tryf.func18, Tryf.ntmps18
    go_wp2_with (go_at_call 22; refine (folds22 t _ _ ht).mono ?_; rintro e w' ⟨rfl, rfl⟩; rw [h1])
    refine bodyPost_ret (v := .tuple #[.agg #[.int .u8 1, .int .i64 0, .int .i64 0], .nilIface]) ?_ rfl ⟨⟨_, rfl, .inl ⟨rfl, rfl⟩⟩, ?_⟩
    · simp [results, Tryf.results18, go_sem]
    · exact ((Below.refl _ _).alloc (Nat.le_refl _) _).alloc (by simp) _
  | false =>
    rw [h1, if_neg (by simp)] at hfo
    cases h2 : foldsB t ⟨#[108, 119]⟩ with
    | true =>
      rw [h2, if_pos rfl] at hfo
      subst hfo
      go_enter Tryf.func18, Tryf.ntmps18
      go_wp2_with (go_at_call 22; refine (folds22 t _ _ ht).mono ?_; rintro e w' ⟨rfl, rfl⟩; first | rw [h1] | rw [h2])
      refine bodyPost_ret (v := .tuple #[.agg #[.int .u8 2, .int .i64 0, .int .i64 0], .nilIface]) ?_ rfl ⟨⟨_, rfl, .inl ⟨rfl, rfl⟩⟩, ?_⟩
      · simp [results, Tryf.results18, go_sem]
      · exact ((Below.refl _ _).alloc (Nat.le_refl _) _).alloc (by simp) _
    | false =>
      rw [h2, if_neg (by simp)] at hfo
      by_cases h0 : t.size = 0
      · rw [if_pos h0] at hfo
        subst hfo
        have H0 : Hid (t.size = 0) := h0
        clear h0
        go_enter Tryf.func18, Tryf.ntmps18
        go_wp2_with (first
          | (go_at_call 22; refine (folds22 t _ _ ht).mono ?_; rintro e w' ⟨rfl, rfl⟩; first | rw [h1] | rw [h2])
          | (go_at_call 23; refine (cut23_no0 t _ _ H0.out).mono ?_; rintro e w' ⟨rfl, rfl⟩))
        refine bodyPost_ret (v := .tuple #[.agg #[.int .u8 0, .int .i64 0, .int .i64 0], .nilIface]) ?_ rfl ⟨⟨_, rfl, .inl ⟨rfl, rfl⟩⟩, ?_⟩
        · simp [results, Tryf.results18, go_sem]
        · exact ((Below.refl _ _).alloc (Nat.le_refl _) _).alloc (by simp) _
      · rw [if_neg h0] at hfo
        have H0 : Hid (¬ t.size = 0) := h0
        clear h0
        cases hw : endW t with
        | false =>
          rw [hw, if_neg (by simp)] at hfo
          subst hfo
          go_enter Tryf.func18, Tryf.ntmps18
          go_wp2_with (first
            | (go_at_call 22; refine (folds22 t _ _ ht).mono ?_; rintro e w' ⟨rfl, rfl⟩; first | rw [h1] | rw [h2])
            | (go_at_call 23; refine (cut23 t _ ht H0.out).mono ?_; rintro e w' ⟨rfl, rfl⟩; rw [hw, if_neg (by simp)]))
          refine bodyPost_ret (v := .tuple #[.agg #[.int .u8 0, .int .i64 0, .int .i64 0], .nilIface]) ?_ rfl ⟨⟨_, rfl, .inl ⟨rfl, rfl⟩⟩, ?_⟩
          · simp [results, Tryf.results18, go_sem]
          · exact ((Below.refl _ _).alloc (Nat.le_refl _) _).alloc (by simp) _
        | true =>
          rw [hw, if_pos rfl] at hfo
          have hs : (t.extract 0 (t.size - 1)).size ≤ maxLen := ext_le t _ _ ht
          have hN2 := fun o1 o2 => hN.below (((Below.refl w.heap.size w).alloc (Nat.le_refl _) o1).alloc (by simp) o2)
          cases hv : valueOf lo hi N n (t.extract 0 (t.size - 1)) with
          | some v =>
            rw [hv] at hfo
            subst hfo
            go_enter Tryf.func18, Tryf.ntmps18
            go_wp2_with (first
              | (go_at_call 22; refine (folds22 t _ _ ht).mono ?_; rintro e w' ⟨rfl, rfl⟩; first | rw [h1] | rw [h2])
              | (go_at_call 23; refine (cut23 t _ ht H0.out).mono ?_; rintro e w' ⟨rfl, rfl⟩; rw [hw, if_pos rfl]))
            refine (form24 F nm lo hi last a n c day noWrap N _ _ _ (by exact hF) hs hn (hN2 _ _)).mono ?_
            rintro e w1 ⟨ho, hb⟩
            rw [hv] at ho
            obtain rfl := ho
            have hbw : Below w.heap.size w w1 := (((Below.refl _ _).alloc (Nat.le_refl _) _).alloc (by simp) _).trans (hb.mono (by simp; omega))
            obtain ⟨hc, hf⟩ := bcell hb
            have hz : w.heap.size + 1 < w1.heap.size := by have := hb.size; simp at this; omega
            clear hb
            go_wp2_with fail
            refine bodyPost_ret (v := .tuple #[.agg #[.int .u8 3, .int .i64 v, .int .i64 0], .nilIface]) ?_ rfl ⟨⟨_, rfl, .inl ⟨rfl, rfl⟩⟩, ?_⟩
            · simp [results, Tryf.results18, go_sem, hc]
            · exact ((hbw.setCell (p := ⟨w.heap.size + 1, 0, none⟩) (by simp) _).setCell (p := ⟨w.heap.size + 1, 1, none⟩) (by simp) _).setCell (p := ⟨w.heap.size + 1, 2, none⟩) (by simp) _
          | none =>
            rw [hv] at hfo
            subst hfo
            go_enter Tryf.func18, Tryf.ntmps18
            go_wp2_with (first
              | (go_at_call 22; refine (folds22 t _ _ ht).mono ?_; rintro e w' ⟨rfl, rfl⟩; first | rw [h1] | rw [h2])
              | (go_at_call 23; refine (cut23 t _ ht H0.out).mono ?_; rintro e w' ⟨rfl, rfl⟩; rw [hw, if_pos rfl]))
            refine (form24 F nm lo hi last a n c day noWrap N _ _ _ (by exact hF) hs hn (hN2 _ _)).mono ?_
            rintro e w1 ⟨ho, hb⟩
            rw [hv] at ho
            obtain ⟨p, rfl⟩ := ho
            have hbw : Below w.heap.size w w1 := (((Below.refl _ _).alloc (Nat.le_refl _) _).alloc (by simp) _).trans (hb.mono (by simp; omega))
            obtain ⟨hc, hf⟩ := bcell hb
            have hz : w.heap.size + 1 < w1.heap.size := by have := hb.size; simp at this; omega
            clear hb
            go_wp2_with fail
            refine bodyPost_ret (v := .tuple #[.agg #[.int .u8 0, .int .i64 0, .int .i64 0], .iface 62 p]) ?_ rfl ⟨⟨_, rfl, .inr ⟨rfl, _, rfl⟩⟩, ?_⟩
            · simp [results, Tryf.results18, go_sem, hc]
            · exact ((hbw.setCell (p := ⟨w.heap.size + 1, 0, none⟩) (by simp) _).setCell (p := ⟨w.heap.size + 1, 1, none⟩) (by simp) _).setCell (p := ⟨w.heap.size + 1, 2, none⟩) (by simp) _

end Go.Proofs.Qxb6616116aFmt
