/-
  WALKS: cronTerm (29).
-/
import Derived.Test.Qxb6616116aWe
import Derived.Deep.RegionHeld3
namespace Go.Proofs.Qxb6616116a
open Go.RowKit

theorem ext_drop (t : ByteArray) (k : Nat) : (t.extract k t.size).data.toList = t.data.toList.drop k := by
  rw [Lib.extract_data, List.take_of_length_le]
  rw [List.length_drop, Array.length_toList]
  exact Nat.le_refl _

theorem ext_run_at (t : ByteArray) (k : Nat) : (t.extract k (k + alLen (t.data.toList.drop k))).data.toList = run (t.data.toList.drop k) := by
  rw [Lib.extract_data, show k + alLen (t.data.toList.drop k) - k = alLen (t.data.toList.drop k) by omega]
  rfl

theorem ext_le (t : ByteArray) (a b : Nat) : (t.extract a b).size ≤ t.size := by rw [ByteArray.size_extract]; omega

theorem len_eq (t : ByteArray) : t.data.toList.length = t.size := Array.length_toList

/-- What cronTerm hands back. -/
def termV (r : Option Nat) : Value := .tuple #[.int .i64 ((r.getD 0 : Nat) : Int), .bool r.isSome]

theorem bcell {W w1 : World} (hb : Below W.heap.size W w1) : (∀ b o, b < W.heap.size → w1.cell? ⟨b, o, none⟩ = W.cell? ⟨b, o, none⟩) ∧ (∀ b o, b < W.heap.size → w1.frozen? ⟨b, o, none⟩ = W.frozen? ⟨b, o, none⟩) :=
  ⟨fun b o h => hb.cell (p := ⟨b, o, none⟩) h, fun b o h => hb.frozen (p := ⟨b, o, none⟩) h⟩

theorem ret_term {x : Int} {r : Nat} (h : x = ((r : Nat) : Int)) : Ending.returned (.tuple #[.int .i64 x, .bool true]) = .returned (termV (some r)) := by rw [h]; rfl

set_option maxHeartbeats 4000000 in
theorem term29 (nm : ByteArray) (lo hi last : Int) (a : Option Addr) (n c : Nat) (day noWrap : Bool) (N : Nat → ByteArray) (t : ByteArray) (w : World) (ht : t.size ≤ 4194304) (hn : n ≤ 1048576) (hN : Ns w a n N) :
    Calls Try.prog 29 #[.agg #[.string nm, .int .i64 lo, .int .i64 hi, .int .i64 last, .slice a n c, .bool day, .nilFunc, .bool noWrap], .string t] w fun e w' =>
      e = .returned (termV (termOf (vok N n) t.data.toList)) ∧ Below w.heap.size w w' := by
  have htm : t.size ≤ maxLen := by unfold maxLen; omega
  have hN1 := fun o => hN.below ((Below.refl w.heap.size w).alloc (Nat.le_refl _) o)
  generalize hR : termOf (vok N n) t.data.toList = R
  unfold termOf at hR
  cases h42 : hd 42 t.data.toList with
  | true =>
    rw [h42, if_pos rfl] at hR
    unfold rest at hR
    have hpos := hd_pos h42
    rw [len_eq] at hpos
    have x1 := ext_drop t (1)
    have z1 : (t.extract (1) t.size).size ≤ maxLen := Nat.le_trans (ext_le t _ _) htm
    have i1 : (((1) : Nat) : Int) ≤ (t.size : Int) := by omega
    cases h47 : hd 47 (t.data.toList.drop (1)) with
    | false =>
      rw [h47, if_neg (by simp)] at hR
      subst hR
      go_enter Try.func29, Try.ntmps29
      go_wp2_with fail
      refine (prefix30 t 42 _ htm).mono ?_
      rintro e w1 ⟨rfl, rfl⟩
      rw [h42]
      go_wp2_with fail
      refine (prefix30 _ 47 _ z1).mono ?_
      rintro e w9 ⟨rfl, rfl⟩
      rw [x1, h47]
      go_wp2_with fail
      go_ret2
      exact ⟨ret_term (by omega), (Below.refl _ _).alloc (Nat.le_refl _) _⟩
    | true =>
      rw [h47, if_pos rfl] at hR
      have hq := hd_drop h47
      rw [len_eq] at hq
      have i2 : (((2) : Nat) : Int) ≤ (t.size : Int) := by omega
      have x2 := ext_drop t (2)
      have z2 : (t.extract (2) t.size).size ≤ maxLen := Nat.le_trans (ext_le t _ _) htm
      have hb2 := alLen_drop t.data.toList (2) (by rw [len_eq]; omega)
      rw [len_eq] at hb2
      have x3 := ext_run_at t (2)
      have i3 : (((2) : Nat) : Int) + ((alLen (t.data.toList.drop (2)) : Nat) : Int) ≤ (t.size : Int) := by omega
      have z3 : (t.extract (2) (2 + alLen (t.data.toList.drop (2)))).size ≤ maxLen := Nat.le_trans (ext_le t _ _) htm
      cases hnb : numB (run (t.data.toList.drop (2))) with
      | true =>
        rw [hnb] at hR
        rw [if_pos (show (true && true) = true from rfl)] at hR
        subst hR
        go_enter Try.func29, Try.ntmps29
        go_wp2_with fail
        refine (prefix30 t 42 _ htm).mono ?_
        rintro e w1 ⟨rfl, rfl⟩
        rw [h42]
        go_wp2_with fail
        refine (prefix30 _ 47 _ z1).mono ?_
        rintro e w9 ⟨rfl, rfl⟩
        rw [x1, h47]
        go_wp2_with fail
        refine (alnum39 _ _ z2).mono ?_
        rintro e w9 ⟨rfl, q9, rfl⟩
        rw [x2]
        go_wp2_with fail
        refine (number40 _ _ z3).mono ?_
        rintro e w9 ⟨rfl, rfl⟩
        rw [x3, hnb]
        go_wp2_with fail
        go_ret2
        exact ⟨ret_term (by omega), below_drewN ((Below.refl _ _).alloc (Nat.le_refl _) _) _⟩
      | false =>
        rw [hnb] at hR
        rw [if_neg (by simp)] at hR
        subst hR
        go_enter Try.func29, Try.ntmps29
        go_wp2_with fail
        refine (prefix30 t 42 _ htm).mono ?_
        rintro e w1 ⟨rfl, rfl⟩
        rw [h42]
        go_wp2_with fail
        refine (prefix30 _ 47 _ z1).mono ?_
        rintro e w9 ⟨rfl, rfl⟩
        rw [x1, h47]
        go_wp2_with fail
        refine (alnum39 _ _ z2).mono ?_
        rintro e w9 ⟨rfl, q9, rfl⟩
        rw [x2]
        go_wp2_with fail
        refine (number40 _ _ z3).mono ?_
        rintro e w9 ⟨rfl, rfl⟩
        rw [x3, hnb]
        go_wp2_with fail
        go_ret2
        exact ⟨rfl, below_drewN ((Below.refl _ _).alloc (Nat.le_refl _) _) _⟩
  | false =>
    rw [h42, if_neg (by simp)] at hR
    have hAle := alLen_le t.data.toList
    rw [len_eq] at hAle
    generalize hA : alLen t.data.toList = A at *
    have xA := ext_drop t A
    have zA : (t.extract A t.size).size ≤ maxLen := Nat.le_trans (ext_le t _ _) htm
    have iA : (A : Int) ≤ (t.size : Int) := by omega
    cases hv1 : vok N n (run t.data.toList) with
    | false =>
      rw [hv1, if_neg (by simp)] at hR
      subst hR
      go_enter Try.func29, Try.ntmps29
      go_wp2_with fail
      refine (prefix30 t 42 _ htm).mono ?_
      rintro e w1 ⟨rfl, rfl⟩
      rw [h42]
      go_wp2_with fail
      refine (cronValue38 nm lo hi last a n c day noWrap N t _ ht hn (hN1 _)).mono ?_
      rintro e w2 ⟨rfl, hb2w⟩
      have hbw2 : Below w.heap.size w w2 := ((Below.refl _ _).alloc (Nat.le_refl _) _).trans (hb2w.mono (by simp))
      rw [hA, hv1]
      go_wp2_with fail
      go_ret2
      exact ⟨rfl, hbw2⟩
    | true =>
      rw [hv1, if_pos rfl] at hR
      cases h45 : hd 45 (t.data.toList.drop A) with
      | false =>
        rw [h45, if_neg (by simp)] at hR
        unfold rest at hR
        have x1 := ext_drop t (A)
        have z1 : (t.extract (A) t.size).size ≤ maxLen := Nat.le_trans (ext_le t _ _) htm
        have i1 : (((A) : Nat) : Int) ≤ (t.size : Int) := by omega
        cases h47 : hd 47 (t.data.toList.drop (A)) with
        | false =>
          rw [h47, if_neg (by simp)] at hR
          subst hR
          go_enter Try.func29, Try.ntmps29
          go_wp2_with fail
          refine (prefix30 t 42 _ htm).mono ?_
          rintro e w1 ⟨rfl, rfl⟩
          rw [h42]
          go_wp2_with fail
          refine (cronValue38 nm lo hi last a n c day noWrap N t _ ht hn (hN1 _)).mono ?_
          rintro e w2 ⟨rfl, hb2w⟩
          have hbw2 : Below w.heap.size w w2 := ((Below.refl _ _).alloc (Nat.le_refl _) _).trans (hb2w.mono (by simp))
          rw [hA, hv1]
          go_wp2_with fail
          refine (prefix30 _ 45 _ zA).mono ?_
          rintro e w9 ⟨rfl, rfl⟩
          rw [xA, h45]
          go_wp2_with fail
          refine (prefix30 _ 47 _ z1).mono ?_
          rintro e w9 ⟨rfl, rfl⟩
          rw [x1, h47]
          go_wp2_with fail
          go_ret2
          exact ⟨ret_term (by omega), hbw2⟩
        | true =>
          rw [h47, if_pos rfl] at hR
          have hq := hd_drop h47
          rw [len_eq] at hq
          have i2 : (((A + 1) : Nat) : Int) ≤ (t.size : Int) := by omega
          have x2 := ext_drop t (A + 1)
          have z2 : (t.extract (A + 1) t.size).size ≤ maxLen := Nat.le_trans (ext_le t _ _) htm
          have hb2 := alLen_drop t.data.toList (A + 1) (by rw [len_eq]; omega)
          rw [len_eq] at hb2
          have x3 := ext_run_at t (A + 1)
          have i3 : (((A + 1) : Nat) : Int) + ((alLen (t.data.toList.drop (A + 1)) : Nat) : Int) ≤ (t.size : Int) := by omega
          have z3 : (t.extract (A + 1) (A + 1 + alLen (t.data.toList.drop (A + 1)))).size ≤ maxLen := Nat.le_trans (ext_le t _ _) htm
          cases hnb : numB (run (t.data.toList.drop (A + 1))) with
          | true =>
            rw [hnb] at hR
            rw [if_neg (by simp)] at hR
            subst hR
            go_enter Try.func29, Try.ntmps29
            go_wp2_with fail
            refine (prefix30 t 42 _ htm).mono ?_
            rintro e w1 ⟨rfl, rfl⟩
            rw [h42]
            go_wp2_with fail
            refine (cronValue38 nm lo hi last a n c day noWrap N t _ ht hn (hN1 _)).mono ?_
            rintro e w2 ⟨rfl, hb2w⟩
            have hbw2 : Below w.heap.size w w2 := ((Below.refl _ _).alloc (Nat.le_refl _) _).trans (hb2w.mono (by simp))
            rw [hA, hv1]
            go_wp2_with fail
            refine (prefix30 _ 45 _ zA).mono ?_
            rintro e w9 ⟨rfl, rfl⟩
            rw [xA, h45]
            go_wp2_with fail
            refine (prefix30 _ 47 _ z1).mono ?_
            rintro e w9 ⟨rfl, rfl⟩
            rw [x1, h47]
            go_wp2_with fail
            refine (alnum39 _ _ z2).mono ?_
            rintro e w9 ⟨rfl, q9, rfl⟩
            rw [x2]
            go_wp2_with fail
            refine (number40 _ _ z3).mono ?_
            rintro e w9 ⟨rfl, rfl⟩
            rw [x3, hnb]
            go_wp2_with fail
            go_ret2
            exact ⟨rfl, below_drewN (hbw2) _⟩
          | false =>
            rw [hnb] at hR
            rw [if_neg (by simp)] at hR
            subst hR
            go_enter Try.func29, Try.ntmps29
            go_wp2_with fail
            refine (prefix30 t 42 _ htm).mono ?_
            rintro e w1 ⟨rfl, rfl⟩
            rw [h42]
            go_wp2_with fail
            refine (cronValue38 nm lo hi last a n c day noWrap N t _ ht hn (hN1 _)).mono ?_
            rintro e w2 ⟨rfl, hb2w⟩
            have hbw2 : Below w.heap.size w w2 := ((Below.refl _ _).alloc (Nat.le_refl _) _).trans (hb2w.mono (by simp))
            rw [hA, hv1]
            go_wp2_with fail
            refine (prefix30 _ 45 _ zA).mono ?_
            rintro e w9 ⟨rfl, rfl⟩
            rw [xA, h45]
            go_wp2_with fail
            refine (prefix30 _ 47 _ z1).mono ?_
            rintro e w9 ⟨rfl, rfl⟩
            rw [x1, h47]
            go_wp2_with fail
            refine (alnum39 _ _ z2).mono ?_
            rintro e w9 ⟨rfl, q9, rfl⟩
            rw [x2]
            go_wp2_with fail
            refine (number40 _ _ z3).mono ?_
            rintro e w9 ⟨rfl, rfl⟩
            rw [x3, hnb]
            go_wp2_with fail
            go_ret2
            exact ⟨rfl, below_drewN (hbw2) _⟩
      | true =>
        rw [h45, if_pos rfl] at hR
        have hqA := hd_drop h45
        rw [len_eq] at hqA
        have iA1 : (A : Int) + 1 ≤ (t.size : Int) := by omega
        have iA2 : IntKind.i64.wrap ((A : Int) + 1) = (A : Int) + 1 := by rw [IntKind.wrap_i64]; omega
        have iA3 : (0 : Int) ≤ (A : Int) + 1 := by omega
        have iA4 : A + 1 ≤ t.size := by omega
        have xB := ext_drop t (A + 1)
        have zB : (t.extract (A + 1) t.size).size ≤ 4194304 := Nat.le_trans (ext_le t _ _) ht
        have hBle := alLen_drop t.data.toList (A + 1) (by rw [len_eq]; omega)
        rw [len_eq] at hBle
        cases hv2 : vok N n (run (t.data.toList.drop (A + 1))) with
        | false =>
          rw [hv2, if_neg (by simp)] at hR
          subst hR
          go_enter Try.func29, Try.ntmps29
          go_wp2_with fail
          refine (prefix30 t 42 _ htm).mono ?_
          rintro e w1 ⟨rfl, rfl⟩
          rw [h42]
          go_wp2_with fail
          refine (cronValue38 nm lo hi last a n c day noWrap N t _ ht hn (hN1 _)).mono ?_
          rintro e w2 ⟨rfl, hb2w⟩
          have hbw2 : Below w.heap.size w w2 := ((Below.refl _ _).alloc (Nat.le_refl _) _).trans (hb2w.mono (by simp))
          rw [hA, hv1]
          have e0 : w2.cell? ⟨w.heap.size, 0, none⟩ = some (.string nm) := by rw [hb2w.cell (p := ⟨w.heap.size, 0, none⟩) (by simp)]; rw [World.cell?_alloc_at (hn := rfl)]; rfl
          have e1 : w2.cell? ⟨w.heap.size, 1, none⟩ = some (.int .i64 lo) := by rw [hb2w.cell (p := ⟨w.heap.size, 1, none⟩) (by simp)]; rw [World.cell?_alloc_at (hn := rfl)]; rfl
          have e2 : w2.cell? ⟨w.heap.size, 2, none⟩ = some (.int .i64 hi) := by rw [hb2w.cell (p := ⟨w.heap.size, 2, none⟩) (by simp)]; rw [World.cell?_alloc_at (hn := rfl)]; rfl
          have e3 : w2.cell? ⟨w.heap.size, 3, none⟩ = some (.int .i64 last) := by rw [hb2w.cell (p := ⟨w.heap.size, 3, none⟩) (by simp)]; rw [World.cell?_alloc_at (hn := rfl)]; rfl
          have e4 : w2.cell? ⟨w.heap.size, 4, none⟩ = some (.slice a n c) := by rw [hb2w.cell (p := ⟨w.heap.size, 4, none⟩) (by simp)]; rw [World.cell?_alloc_at (hn := rfl)]; rfl
          have e5 : w2.cell? ⟨w.heap.size, 5, none⟩ = some (.bool day) := by rw [hb2w.cell (p := ⟨w.heap.size, 5, none⟩) (by simp)]; rw [World.cell?_alloc_at (hn := rfl)]; rfl
          have e6 : w2.cell? ⟨w.heap.size, 6, none⟩ = some .nilFunc := by rw [hb2w.cell (p := ⟨w.heap.size, 6, none⟩) (by simp)]; rw [World.cell?_alloc_at (hn := rfl)]; rfl
          have e7 : w2.cell? ⟨w.heap.size, 7, none⟩ = some (.bool noWrap) := by rw [hb2w.cell (p := ⟨w.heap.size, 7, none⟩) (by simp)]; rw [World.cell?_alloc_at (hn := rfl)]; rfl
          have hz2 : w.heap.size < w2.heap.size := by have := hb2w.size; simp at this; omega
          have hN2 : Ns w2 a n N := (hN1 _).below hb2w
          go_wp2_with fail
          refine (prefix30 _ 45 _ zA).mono ?_
          rintro e w9 ⟨rfl, rfl⟩
          rw [xA, h45]
          go_wp2_with fail
          go_region_held3 (fun w' => w'.cell? ⟨w.heap.size, 0, none⟩ = some (.string nm) ∧ w'.cell? ⟨w.heap.size, 1, none⟩ = some (.int .i64 lo) ∧ w'.cell? ⟨w.heap.size, 2, none⟩ = some (.int .i64 hi) ∧ w'.cell? ⟨w.heap.size, 3, none⟩ = some (.int .i64 last) ∧ w'.cell? ⟨w.heap.size, 4, none⟩ = some (.slice a n c) ∧ w'.cell? ⟨w.heap.size, 5, none⟩ = some (.bool day) ∧ w'.cell? ⟨w.heap.size, 6, none⟩ = some .nilFunc ∧ w'.cell? ⟨w.heap.size, 7, none⟩ = some (.bool noWrap)) (go_keep)
            (first
              | (go_at_call 38; refine (cronValue38 nm lo hi last a n c day noWrap N (t.extract (A + 1) t.size) _ zB hn (by exact hN2)).mono ?_; rintro e w3 ⟨rfl, hb3w⟩; rw [xB, hv2]; have k3 : ∀ o, w3.cell? ⟨w.heap.size, o, none⟩ = w2.cell? ⟨w.heap.size, o, none⟩ := fun o => hb3w.cell (p := ⟨w.heap.size, o, none⟩) hz2))
          have hbw3 : Below w.heap.size w w3 := hbw2.trans (((Below.refl _ _).drew).trans (hb3w.mono hbw2.size))
          clear e0 e1 e2 e3 e4 e5 e6 e7 k3
          go_wp2_with fail
          go_ret2
          exact ⟨rfl, hbw3⟩
        | true =>
          rw [hv2, if_pos rfl] at hR
          generalize hM : alLen (t.data.toList.drop (A + 1)) = M at *
          unfold rest at hR
          rw [Nat.add_assoc A 1 M] at hR
          have x1 := ext_drop t (A + (1 + M))
          have z1 : (t.extract (A + (1 + M)) t.size).size ≤ maxLen := Nat.le_trans (ext_le t _ _) htm
          have i1 : (((A + (1 + M)) : Nat) : Int) ≤ (t.size : Int) := by omega
          cases h47 : hd 47 (t.data.toList.drop (A + (1 + M))) with
          | false =>
            rw [h47, if_neg (by simp)] at hR
            subst hR
            go_enter Try.func29, Try.ntmps29
            go_wp2_with fail
            refine (prefix30 t 42 _ htm).mono ?_
            rintro e w1 ⟨rfl, rfl⟩
            rw [h42]
            go_wp2_with fail
            refine (cronValue38 nm lo hi last a n c day noWrap N t _ ht hn (hN1 _)).mono ?_
            rintro e w2 ⟨rfl, hb2w⟩
            have hbw2 : Below w.heap.size w w2 := ((Below.refl _ _).alloc (Nat.le_refl _) _).trans (hb2w.mono (by simp))
            rw [hA, hv1]
            have e0 : w2.cell? ⟨w.heap.size, 0, none⟩ = some (.string nm) := by rw [hb2w.cell (p := ⟨w.heap.size, 0, none⟩) (by simp)]; rw [World.cell?_alloc_at (hn := rfl)]; rfl
            have e1 : w2.cell? ⟨w.heap.size, 1, none⟩ = some (.int .i64 lo) := by rw [hb2w.cell (p := ⟨w.heap.size, 1, none⟩) (by simp)]; rw [World.cell?_alloc_at (hn := rfl)]; rfl
            have e2 : w2.cell? ⟨w.heap.size, 2, none⟩ = some (.int .i64 hi) := by rw [hb2w.cell (p := ⟨w.heap.size, 2, none⟩) (by simp)]; rw [World.cell?_alloc_at (hn := rfl)]; rfl
            have e3 : w2.cell? ⟨w.heap.size, 3, none⟩ = some (.int .i64 last) := by rw [hb2w.cell (p := ⟨w.heap.size, 3, none⟩) (by simp)]; rw [World.cell?_alloc_at (hn := rfl)]; rfl
            have e4 : w2.cell? ⟨w.heap.size, 4, none⟩ = some (.slice a n c) := by rw [hb2w.cell (p := ⟨w.heap.size, 4, none⟩) (by simp)]; rw [World.cell?_alloc_at (hn := rfl)]; rfl
            have e5 : w2.cell? ⟨w.heap.size, 5, none⟩ = some (.bool day) := by rw [hb2w.cell (p := ⟨w.heap.size, 5, none⟩) (by simp)]; rw [World.cell?_alloc_at (hn := rfl)]; rfl
            have e6 : w2.cell? ⟨w.heap.size, 6, none⟩ = some .nilFunc := by rw [hb2w.cell (p := ⟨w.heap.size, 6, none⟩) (by simp)]; rw [World.cell?_alloc_at (hn := rfl)]; rfl
            have e7 : w2.cell? ⟨w.heap.size, 7, none⟩ = some (.bool noWrap) := by rw [hb2w.cell (p := ⟨w.heap.size, 7, none⟩) (by simp)]; rw [World.cell?_alloc_at (hn := rfl)]; rfl
            have hz2 : w.heap.size < w2.heap.size := by have := hb2w.size; simp at this; omega
            have hN2 : Ns w2 a n N := (hN1 _).below hb2w
            go_wp2_with fail
            refine (prefix30 _ 45 _ zA).mono ?_
            rintro e w9 ⟨rfl, rfl⟩
            rw [xA, h45]
            go_wp2_with fail
            go_region_held3 (fun w' => w'.cell? ⟨w.heap.size, 0, none⟩ = some (.string nm) ∧ w'.cell? ⟨w.heap.size, 1, none⟩ = some (.int .i64 lo) ∧ w'.cell? ⟨w.heap.size, 2, none⟩ = some (.int .i64 hi) ∧ w'.cell? ⟨w.heap.size, 3, none⟩ = some (.int .i64 last) ∧ w'.cell? ⟨w.heap.size, 4, none⟩ = some (.slice a n c) ∧ w'.cell? ⟨w.heap.size, 5, none⟩ = some (.bool day) ∧ w'.cell? ⟨w.heap.size, 6, none⟩ = some .nilFunc ∧ w'.cell? ⟨w.heap.size, 7, none⟩ = some (.bool noWrap)) (go_keep)
              (first
                | (go_at_call 38; refine (cronValue38 nm lo hi last a n c day noWrap N (t.extract (A + 1) t.size) _ zB hn (by exact hN2)).mono ?_; rintro e w3 ⟨rfl, hb3w⟩; rw [xB, hv2, hM]; have k3 : ∀ o, w3.cell? ⟨w.heap.size, o, none⟩ = w2.cell? ⟨w.heap.size, o, none⟩ := fun o => hb3w.cell (p := ⟨w.heap.size, o, none⟩) hz2))
            have hbw3 : Below w.heap.size w w3 := hbw2.trans (((Below.refl _ _).drew).trans (hb3w.mono hbw2.size))
            clear e0 e1 e2 e3 e4 e5 e6 e7 k3
            go_wp2_with fail
            refine (prefix30 _ 47 _ z1).mono ?_
            rintro e w9 ⟨rfl, rfl⟩
            rw [x1, h47]
            go_wp2_with fail
            go_ret2
            exact ⟨ret_term (by omega), hbw3⟩
          | true =>
            rw [h47, if_pos rfl] at hR
            have hq := hd_drop h47
            rw [len_eq] at hq
            have i2 : (((A + (1 + M) + 1) : Nat) : Int) ≤ (t.size : Int) := by omega
            have x2 := ext_drop t (A + (1 + M) + 1)
            have z2 : (t.extract (A + (1 + M) + 1) t.size).size ≤ maxLen := Nat.le_trans (ext_le t _ _) htm
            have hb2 := alLen_drop t.data.toList (A + (1 + M) + 1) (by rw [len_eq]; omega)
            rw [len_eq] at hb2
            have x3 := ext_run_at t (A + (1 + M) + 1)
            have i3 : (((A + (1 + M) + 1) : Nat) : Int) + ((alLen (t.data.toList.drop (A + (1 + M) + 1)) : Nat) : Int) ≤ (t.size : Int) := by omega
            have z3 : (t.extract (A + (1 + M) + 1) (A + (1 + M) + 1 + alLen (t.data.toList.drop (A + (1 + M) + 1)))).size ≤ maxLen := Nat.le_trans (ext_le t _ _) htm
            cases hnb : numB (run (t.data.toList.drop (A + (1 + M) + 1))) with
            | true =>
              rw [hnb] at hR
              rw [if_pos (show (true && true) = true from rfl)] at hR
              subst hR
              go_enter Try.func29, Try.ntmps29
              go_wp2_with fail
              refine (prefix30 t 42 _ htm).mono ?_
              rintro e w1 ⟨rfl, rfl⟩
              rw [h42]
              go_wp2_with fail
              refine (cronValue38 nm lo hi last a n c day noWrap N t _ ht hn (hN1 _)).mono ?_
              rintro e w2 ⟨rfl, hb2w⟩
              have hbw2 : Below w.heap.size w w2 := ((Below.refl _ _).alloc (Nat.le_refl _) _).trans (hb2w.mono (by simp))
              rw [hA, hv1]
              have e0 : w2.cell? ⟨w.heap.size, 0, none⟩ = some (.string nm) := by rw [hb2w.cell (p := ⟨w.heap.size, 0, none⟩) (by simp)]; rw [World.cell?_alloc_at (hn := rfl)]; rfl
              have e1 : w2.cell? ⟨w.heap.size, 1, none⟩ = some (.int .i64 lo) := by rw [hb2w.cell (p := ⟨w.heap.size, 1, none⟩) (by simp)]; rw [World.cell?_alloc_at (hn := rfl)]; rfl
              have e2 : w2.cell? ⟨w.heap.size, 2, none⟩ = some (.int .i64 hi) := by rw [hb2w.cell (p := ⟨w.heap.size, 2, none⟩) (by simp)]; rw [World.cell?_alloc_at (hn := rfl)]; rfl
              have e3 : w2.cell? ⟨w.heap.size, 3, none⟩ = some (.int .i64 last) := by rw [hb2w.cell (p := ⟨w.heap.size, 3, none⟩) (by simp)]; rw [World.cell?_alloc_at (hn := rfl)]; rfl
              have e4 : w2.cell? ⟨w.heap.size, 4, none⟩ = some (.slice a n c) := by rw [hb2w.cell (p := ⟨w.heap.size, 4, none⟩) (by simp)]; rw [World.cell?_alloc_at (hn := rfl)]; rfl
              have e5 : w2.cell? ⟨w.heap.size, 5, none⟩ = some (.bool day) := by rw [hb2w.cell (p := ⟨w.heap.size, 5, none⟩) (by simp)]; rw [World.cell?_alloc_at (hn := rfl)]; rfl
              have e6 : w2.cell? ⟨w.heap.size, 6, none⟩ = some .nilFunc := by rw [hb2w.cell (p := ⟨w.heap.size, 6, none⟩) (by simp)]; rw [World.cell?_alloc_at (hn := rfl)]; rfl
              have e7 : w2.cell? ⟨w.heap.size, 7, none⟩ = some (.bool noWrap) := by rw [hb2w.cell (p := ⟨w.heap.size, 7, none⟩) (by simp)]; rw [World.cell?_alloc_at (hn := rfl)]; rfl
              have hz2 : w.heap.size < w2.heap.size := by have := hb2w.size; simp at this; omega
              have hN2 : Ns w2 a n N := (hN1 _).below hb2w
              go_wp2_with fail
              refine (prefix30 _ 45 _ zA).mono ?_
              rintro e w9 ⟨rfl, rfl⟩
              rw [xA, h45]
              go_wp2_with fail
              go_region_held3 (fun w' => w'.cell? ⟨w.heap.size, 0, none⟩ = some (.string nm) ∧ w'.cell? ⟨w.heap.size, 1, none⟩ = some (.int .i64 lo) ∧ w'.cell? ⟨w.heap.size, 2, none⟩ = some (.int .i64 hi) ∧ w'.cell? ⟨w.heap.size, 3, none⟩ = some (.int .i64 last) ∧ w'.cell? ⟨w.heap.size, 4, none⟩ = some (.slice a n c) ∧ w'.cell? ⟨w.heap.size, 5, none⟩ = some (.bool day) ∧ w'.cell? ⟨w.heap.size, 6, none⟩ = some .nilFunc ∧ w'.cell? ⟨w.heap.size, 7, none⟩ = some (.bool noWrap)) (go_keep)
                (first
                  | (go_at_call 38; refine (cronValue38 nm lo hi last a n c day noWrap N (t.extract (A + 1) t.size) _ zB hn (by exact hN2)).mono ?_; rintro e w3 ⟨rfl, hb3w⟩; rw [xB, hv2, hM]; have k3 : ∀ o, w3.cell? ⟨w.heap.size, o, none⟩ = w2.cell? ⟨w.heap.size, o, none⟩ := fun o => hb3w.cell (p := ⟨w.heap.size, o, none⟩) hz2))
              have hbw3 : Below w.heap.size w w3 := hbw2.trans (((Below.refl _ _).drew).trans (hb3w.mono hbw2.size))
              clear e0 e1 e2 e3 e4 e5 e6 e7 k3
              go_wp2_with fail
              refine (prefix30 _ 47 _ z1).mono ?_
              rintro e w9 ⟨rfl, rfl⟩
              rw [x1, h47]
              go_wp2_with fail
              refine (alnum39 _ _ z2).mono ?_
              rintro e w9 ⟨rfl, q9, rfl⟩
              rw [x2]
              go_wp2_with fail
              refine (number40 _ _ z3).mono ?_
              rintro e w9 ⟨rfl, rfl⟩
              rw [x3, hnb]
              go_wp2_with fail
              go_ret2
              exact ⟨ret_term (by omega), below_drewN (hbw3) _⟩
            | false =>
              rw [hnb] at hR
              rw [if_neg (by simp)] at hR
              subst hR
              go_enter Try.func29, Try.ntmps29
              go_wp2_with fail
              refine (prefix30 t 42 _ htm).mono ?_
              rintro e w1 ⟨rfl, rfl⟩
              rw [h42]
              go_wp2_with fail
              refine (cronValue38 nm lo hi last a n c day noWrap N t _ ht hn (hN1 _)).mono ?_
              rintro e w2 ⟨rfl, hb2w⟩
              have hbw2 : Below w.heap.size w w2 := ((Below.refl _ _).alloc (Nat.le_refl _) _).trans (hb2w.mono (by simp))
              rw [hA, hv1]
              have e0 : w2.cell? ⟨w.heap.size, 0, none⟩ = some (.string nm) := by rw [hb2w.cell (p := ⟨w.heap.size, 0, none⟩) (by simp)]; rw [World.cell?_alloc_at (hn := rfl)]; rfl
              have e1 : w2.cell? ⟨w.heap.size, 1, none⟩ = some (.int .i64 lo) := by rw [hb2w.cell (p := ⟨w.heap.size, 1, none⟩) (by simp)]; rw [World.cell?_alloc_at (hn := rfl)]; rfl
              have e2 : w2.cell? ⟨w.heap.size, 2, none⟩ = some (.int .i64 hi) := by rw [hb2w.cell (p := ⟨w.heap.size, 2, none⟩) (by simp)]; rw [World.cell?_alloc_at (hn := rfl)]; rfl
              have e3 : w2.cell? ⟨w.heap.size, 3, none⟩ = some (.int .i64 last) := by rw [hb2w.cell (p := ⟨w.heap.size, 3, none⟩) (by simp)]; rw [World.cell?_alloc_at (hn := rfl)]; rfl
              have e4 : w2.cell? ⟨w.heap.size, 4, none⟩ = some (.slice a n c) := by rw [hb2w.cell (p := ⟨w.heap.size, 4, none⟩) (by simp)]; rw [World.cell?_alloc_at (hn := rfl)]; rfl
              have e5 : w2.cell? ⟨w.heap.size, 5, none⟩ = some (.bool day) := by rw [hb2w.cell (p := ⟨w.heap.size, 5, none⟩) (by simp)]; rw [World.cell?_alloc_at (hn := rfl)]; rfl
              have e6 : w2.cell? ⟨w.heap.size, 6, none⟩ = some .nilFunc := by rw [hb2w.cell (p := ⟨w.heap.size, 6, none⟩) (by simp)]; rw [World.cell?_alloc_at (hn := rfl)]; rfl
              have e7 : w2.cell? ⟨w.heap.size, 7, none⟩ = some (.bool noWrap) := by rw [hb2w.cell (p := ⟨w.heap.size, 7, none⟩) (by simp)]; rw [World.cell?_alloc_at (hn := rfl)]; rfl
              have hz2 : w.heap.size < w2.heap.size := by have := hb2w.size; simp at this; omega
              have hN2 : Ns w2 a n N := (hN1 _).below hb2w
              go_wp2_with fail
              refine (prefix30 _ 45 _ zA).mono ?_
              rintro e w9 ⟨rfl, rfl⟩
              rw [xA, h45]
              go_wp2_with fail
              go_region_held3 (fun w' => w'.cell? ⟨w.heap.size, 0, none⟩ = some (.string nm) ∧ w'.cell? ⟨w.heap.size, 1, none⟩ = some (.int .i64 lo) ∧ w'.cell? ⟨w.heap.size, 2, none⟩ = some (.int .i64 hi) ∧ w'.cell? ⟨w.heap.size, 3, none⟩ = some (.int .i64 last) ∧ w'.cell? ⟨w.heap.size, 4, none⟩ = some (.slice a n c) ∧ w'.cell? ⟨w.heap.size, 5, none⟩ = some (.bool day) ∧ w'.cell? ⟨w.heap.size, 6, none⟩ = some .nilFunc ∧ w'.cell? ⟨w.heap.size, 7, none⟩ = some (.bool noWrap)) (go_keep)
                (first
                  | (go_at_call 38; refine (cronValue38 nm lo hi last a n c day noWrap N (t.extract (A + 1) t.size) _ zB hn (by exact hN2)).mono ?_; rintro e w3 ⟨rfl, hb3w⟩; rw [xB, hv2, hM]; have k3 : ∀ o, w3.cell? ⟨w.heap.size, o, none⟩ = w2.cell? ⟨w.heap.size, o, none⟩ := fun o => hb3w.cell (p := ⟨w.heap.size, o, none⟩) hz2))
              have hbw3 : Below w.heap.size w w3 := hbw2.trans (((Below.refl _ _).drew).trans (hb3w.mono hbw2.size))
              clear e0 e1 e2 e3 e4 e5 e6 e7 k3
              go_wp2_with fail
              refine (prefix30 _ 47 _ z1).mono ?_
              rintro e w9 ⟨rfl, rfl⟩
              rw [x1, h47]
              go_wp2_with fail
              refine (alnum39 _ _ z2).mono ?_
              rintro e w9 ⟨rfl, q9, rfl⟩
              rw [x2]
              go_wp2_with fail
              refine (number40 _ _ z3).mono ?_
              rintro e w9 ⟨rfl, rfl⟩
              rw [x3, hnb]
              go_wp2_with fail
              go_ret2
              exact ⟨rfl, below_drewN (hbw3) _⟩

end Go.Proofs.Qxb6616116a
