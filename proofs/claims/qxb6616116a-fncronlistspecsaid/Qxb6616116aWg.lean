/-
  WALKS: cronList (21), ZZcronList (11).
-/
import Derived.Test.Qxb6616116aWf
namespace Go.Proofs.Qxb6616116a
open Go.RowKit

theorem termV_some (m : Nat) : termV (some m) = .tuple #[.int .i64 (m : Int), .bool true] := rfl
theorem termV_none : termV none = .tuple #[.int .i64 0, .bool false] := rfl

theorem rest_le {r : Bool} {l : List UInt8} {n m : Nat} (hn : n ≤ l.length) (h : rest r l n = some m) : m ≤ l.length := by
  unfold rest at h
  by_cases h1 : hd 47 (l.drop n) = true
  · rw [if_pos h1] at h
    have := hd_drop h1
    by_cases h2 : (numB (run (l.drop (n + 1))) && r) = true
    · rw [if_pos h2] at h
      obtain rfl := Option.some.inj h
      exact alLen_drop l (n + 1) (by omega)
    · rw [if_neg h2] at h
      exact absurd h (by simp)
  · rw [if_neg h1] at h
    obtain rfl := Option.some.inj h
    exact hn

theorem term_le {V : List UInt8 → Bool} {l : List UInt8} {m : Nat} (h : termOf V l = some m) : m ≤ l.length := by
  unfold termOf at h
  have ha := alLen_le l
  by_cases h1 : hd 42 l = true
  · rw [if_pos h1] at h
    have := hd_pos h1
    exact rest_le (by omega) h
  · rw [if_neg h1] at h
    by_cases h2 : V (run l) = true
    · rw [if_pos h2] at h
      by_cases h3 : hd 45 (l.drop (alLen l)) = true
      · rw [if_pos h3] at h
        have := hd_drop h3
        by_cases h4 : V (run (l.drop (alLen l + 1))) = true
        · rw [if_pos h4] at h
          exact rest_le (alLen_drop l _ (by omega)) h
        · rw [if_neg h4] at h
          exact absurd h (by simp)
      · rw [if_neg h3] at h
        exact rest_le ha h
    · rw [if_neg h2] at h
      exact absurd h (by simp)

theorem lft_none {V : List UInt8 → Bool} {L : List UInt8} {p : Nat} (hp : p ≤ L.length) (h : termOf V (L.drop p) = none) : lft V L p = L.length := by
  rw [lft_eq V L p hp, h]

theorem lft_more {V : List UInt8 → Bool} {L : List UInt8} {p m : Nat} (hp : p ≤ L.length) (h : termOf V (L.drop p) = some m) (hc : hd 44 (L.drop (p + m)) = true) : lft V L p = lft V L (p + m + 1) := by
  rw [lft_eq V L p hp, h]
  exact if_pos hc

theorem lft_end {V : List UInt8 → Bool} {L : List UInt8} {p m : Nat} (hp : p ≤ L.length) (h : termOf V (L.drop p) = some m) (hc : hd 44 (L.drop (p + m)) = false) : lft V L p = p + m := by
  rw [lft_eq V L p hp, h]
  exact if_neg (by rw [hc]; simp)

set_option maxHeartbeats 4000000 in
theorem cronList21 (nm : ByteArray) (lo hi last : Int) (a : Option Addr) (n c : Nat) (day noWrap : Bool) (N : Nat → ByteArray) (t : ByteArray) (w : World) (ht : t.size ≤ 4194304) (hn : n ≤ 1048576) (hN : Ns w a n N) :
    Calls Try.prog 21 #[.agg #[.string nm, .int .i64 lo, .int .i64 hi, .int .i64 last, .slice a n c, .bool day, .nilFunc, .bool noWrap], .string t] w fun e w' =>
      e = .returned (.int .i64 ((listOf (vok N n) t.data.toList : Nat) : Int)) ∧ Below w.heap.size w w' := by
  have htm : t.size ≤ maxLen := by unfold maxLen; omega
  have hN1 := fun o => hN.below ((Below.refl w.heap.size w).alloc (Nat.le_refl _) o)
  generalize hR : listOf (vok N n) t.data.toList = R
  go_enter Try.func21, Try.ntmps21
  go_wp2
  go_loopw [5] (fun i wr => ∃ k : Nat, k ≤ t.size ∧ i = .int .i64 k ∧ Below (w.heap.size + 1) (w.alloc (.cells #[.string nm, .int .i64 lo, .int .i64 hi, .int .i64 last, .slice a n c, .bool day, .nilFunc, .bool noWrap] 28)) wr ∧ lft (vok N n) t.data.toList k = R) (fun i _ => t.size - (intOf i).toNat)
  case atStart => exact ⟨0, Nat.zero_le _, rfl, Below.refl _ _, hR⟩
  case round =>
    obtain ⟨k, hk, rfl, hbe, hpre⟩ := hrel
    have HP : Hid (lft (vok N n) t.data.toList k = R) := hpre
    clear hpre
    have hz2 : w.heap.size < wr.heap.size := by have := hbe.size; simp at this; omega
    have hN2 : Ns wr a n N := (hN1 _).below (hbe.mono (by simp))
    have zB : (t.extract k t.size).size ≤ 4194304 := Nat.le_trans (ext_le t _ _) ht
    have xB := ext_drop t k
    have hkL : k ≤ t.data.toList.length := by rw [len_eq]; exact hk
    have i1 : (k : Int) ≤ (t.size : Int) := by omega
    have e0 : wr.cell? ⟨w.heap.size, 0, none⟩ = some (.string nm) := by rw [hbe.cell (p := ⟨w.heap.size, 0, none⟩) (by simp)]; rw [World.cell?_alloc_at (hn := rfl)]; rfl
    have e1 : wr.cell? ⟨w.heap.size, 1, none⟩ = some (.int .i64 lo) := by rw [hbe.cell (p := ⟨w.heap.size, 1, none⟩) (by simp)]; rw [World.cell?_alloc_at (hn := rfl)]; rfl
    have e2 : wr.cell? ⟨w.heap.size, 2, none⟩ = some (.int .i64 hi) := by rw [hbe.cell (p := ⟨w.heap.size, 2, none⟩) (by simp)]; rw [World.cell?_alloc_at (hn := rfl)]; rfl
    have e3 : wr.cell? ⟨w.heap.size, 3, none⟩ = some (.int .i64 last) := by rw [hbe.cell (p := ⟨w.heap.size, 3, none⟩) (by simp)]; rw [World.cell?_alloc_at (hn := rfl)]; rfl
    have e4 : wr.cell? ⟨w.heap.size, 4, none⟩ = some (.slice a n c) := by rw [hbe.cell (p := ⟨w.heap.size, 4, none⟩) (by simp)]; rw [World.cell?_alloc_at (hn := rfl)]; rfl
    have e5 : wr.cell? ⟨w.heap.size, 5, none⟩ = some (.bool day) := by rw [hbe.cell (p := ⟨w.heap.size, 5, none⟩) (by simp)]; rw [World.cell?_alloc_at (hn := rfl)]; rfl
    have e6 : wr.cell? ⟨w.heap.size, 6, none⟩ = some .nilFunc := by rw [hbe.cell (p := ⟨w.heap.size, 6, none⟩) (by simp)]; rw [World.cell?_alloc_at (hn := rfl)]; rfl
    have e7 : wr.cell? ⟨w.heap.size, 7, none⟩ = some (.bool noWrap) := by rw [hbe.cell (p := ⟨w.heap.size, 7, none⟩) (by simp)]; rw [World.cell?_alloc_at (hn := rfl)]; rfl
    cases hT : termOf (vok N n) (t.data.toList.drop k) with
    | none =>
      go_wp2_with fail
      go_region_held3 (fun w' => w'.cell? ⟨w.heap.size, 0, none⟩ = some (.string nm) ∧ w'.cell? ⟨w.heap.size, 1, none⟩ = some (.int .i64 lo) ∧ w'.cell? ⟨w.heap.size, 2, none⟩ = some (.int .i64 hi) ∧ w'.cell? ⟨w.heap.size, 3, none⟩ = some (.int .i64 last) ∧ w'.cell? ⟨w.heap.size, 4, none⟩ = some (.slice a n c) ∧ w'.cell? ⟨w.heap.size, 5, none⟩ = some (.bool day) ∧ w'.cell? ⟨w.heap.size, 6, none⟩ = some .nilFunc ∧ w'.cell? ⟨w.heap.size, 7, none⟩ = some (.bool noWrap)) (go_keep)
        (first
          | (go_at_call 29; refine (term29 nm lo hi last a n c day noWrap N (t.extract k t.size) _ zB hn (by exact hN2)).mono ?_; rintro e w3 ⟨rfl, hb3w⟩; rw [xB, hT, termV_none]; have k3 : ∀ o, w3.cell? ⟨w.heap.size, o, none⟩ = wr.cell? ⟨w.heap.size, o, none⟩ := fun o => hb3w.cell (p := ⟨w.heap.size, o, none⟩) hz2))
      have hbw3 : Below (w.heap.size + 1) (w.alloc (.cells #[.string nm, .int .i64 lo, .int .i64 hi, .int .i64 last, .slice a n c, .bool day, .nilFunc, .bool noWrap] 28)) w3 := hbe.trans (((Below.refl _ _).drew).trans (hb3w.mono (by exact hz2)))
      have hbw : Below w.heap.size w w3 := ((Below.refl _ _).alloc (Nat.le_refl _) _).trans (hbw3.mono (by simp))
      clear e0 e1 e2 e3 e4 e5 e6 e7 k3
      go_wp2_with fail
      go_ret
      exact ⟨ret_int (by rw [← HP.out, lft_none hkL hT, len_eq]), hbw⟩
    | some m =>
      have hm := term_le hT
      rw [List.length_drop, len_eq] at hm
      have i2 : (k : Int) + (m : Int) ≤ (t.size : Int) := by omega
      have x1 := ext_drop t (k + m)
      have z1 : (t.extract (k + m) t.size).size ≤ maxLen := Nat.le_trans (ext_le t _ _) htm
      cases h44 : hd 44 (t.data.toList.drop (k + m)) with
      | false =>
        go_wp2_with fail
        go_region_held3 (fun w' => w'.cell? ⟨w.heap.size, 0, none⟩ = some (.string nm) ∧ w'.cell? ⟨w.heap.size, 1, none⟩ = some (.int .i64 lo) ∧ w'.cell? ⟨w.heap.size, 2, none⟩ = some (.int .i64 hi) ∧ w'.cell? ⟨w.heap.size, 3, none⟩ = some (.int .i64 last) ∧ w'.cell? ⟨w.heap.size, 4, none⟩ = some (.slice a n c) ∧ w'.cell? ⟨w.heap.size, 5, none⟩ = some (.bool day) ∧ w'.cell? ⟨w.heap.size, 6, none⟩ = some .nilFunc ∧ w'.cell? ⟨w.heap.size, 7, none⟩ = some (.bool noWrap)) (go_keep)
          (first
            | (go_at_call 29; refine (term29 nm lo hi last a n c day noWrap N (t.extract k t.size) _ zB hn (by exact hN2)).mono ?_; rintro e w3 ⟨rfl, hb3w⟩; rw [xB, hT, termV_some]; have k3 : ∀ o, w3.cell? ⟨w.heap.size, o, none⟩ = wr.cell? ⟨w.heap.size, o, none⟩ := fun o => hb3w.cell (p := ⟨w.heap.size, o, none⟩) hz2))
        have hbw3 : Below (w.heap.size + 1) (w.alloc (.cells #[.string nm, .int .i64 lo, .int .i64 hi, .int .i64 last, .slice a n c, .bool day, .nilFunc, .bool noWrap] 28)) w3 := hbe.trans (((Below.refl _ _).drew).trans (hb3w.mono (by exact hz2)))
        have hbw : Below w.heap.size w w3 := ((Below.refl _ _).alloc (Nat.le_refl _) _).trans (hbw3.mono (by simp))
        clear e0 e1 e2 e3 e4 e5 e6 e7 k3
        go_wp2_with fail
        refine (prefix30 _ 44 _ z1).mono ?_
        rintro e w9 ⟨rfl, rfl⟩
        rw [x1, h44]
        go_wp2_with fail
        go_ret
        exact ⟨ret_int (by rw [← HP.out, lft_end hkL hT h44]; omega), hbw⟩
      | true =>
        have hlt := hd_drop h44
        rw [len_eq] at hlt
        go_wp2_with fail
        go_region_held3 (fun w' => w'.cell? ⟨w.heap.size, 0, none⟩ = some (.string nm) ∧ w'.cell? ⟨w.heap.size, 1, none⟩ = some (.int .i64 lo) ∧ w'.cell? ⟨w.heap.size, 2, none⟩ = some (.int .i64 hi) ∧ w'.cell? ⟨w.heap.size, 3, none⟩ = some (.int .i64 last) ∧ w'.cell? ⟨w.heap.size, 4, none⟩ = some (.slice a n c) ∧ w'.cell? ⟨w.heap.size, 5, none⟩ = some (.bool day) ∧ w'.cell? ⟨w.heap.size, 6, none⟩ = some .nilFunc ∧ w'.cell? ⟨w.heap.size, 7, none⟩ = some (.bool noWrap)) (go_keep)
          (first
            | (go_at_call 29; refine (term29 nm lo hi last a n c day noWrap N (t.extract k t.size) _ zB hn (by exact hN2)).mono ?_; rintro e w3 ⟨rfl, hb3w⟩; rw [xB, hT, termV_some]; have k3 : ∀ o, w3.cell? ⟨w.heap.size, o, none⟩ = wr.cell? ⟨w.heap.size, o, none⟩ := fun o => hb3w.cell (p := ⟨w.heap.size, o, none⟩) hz2))
        have hbw3 : Below (w.heap.size + 1) (w.alloc (.cells #[.string nm, .int .i64 lo, .int .i64 hi, .int .i64 last, .slice a n c, .bool day, .nilFunc, .bool noWrap] 28)) w3 := hbe.trans (((Below.refl _ _).drew).trans (hb3w.mono (by exact hz2)))
        have hbw : Below w.heap.size w w3 := ((Below.refl _ _).alloc (Nat.le_refl _) _).trans (hbw3.mono (by simp))
        clear e0 e1 e2 e3 e4 e5 e6 e7 k3
        go_wp2_with fail
        refine (prefix30 _ 44 _ z1).mono ?_
        rintro e w9 ⟨rfl, rfl⟩
        rw [x1, h44]
        go_wp2_with fail
        go_roundw
        case rel => exact ⟨k + m + 1, by omega, by go_num, hbw3, by rw [← HP.out, lft_more hkL hT h44]⟩
        case measure => simp [intOf]; omega

theorem zzCronList11 (nm : ByteArray) (lo hi last : Int) (a : Option Addr) (n c : Nat) (day noWrap : Bool) (N : Nat → ByteArray) (t : ByteArray) (w : World) (ht : t.size ≤ 4194304) (hn : n ≤ 1048576) (hN : Ns w a n N) :
    Calls Try.prog 11 #[.agg #[.string nm, .int .i64 lo, .int .i64 hi, .int .i64 last, .slice a n c, .bool day, .nilFunc, .bool noWrap], .string t] w fun e w' =>
      e = .returned (.int .i64 ((listOf (vok N n) t.data.toList : Nat) : Int)) ∧ Below w.heap.size w w' := by
  have hN1 := fun o => hN.below ((Below.refl w.heap.size w).alloc (Nat.le_refl _) o)
  go_enter Try.func11, Try.ntmps11
  go_wp2_with fail
  refine (cronList21 nm lo hi last a n c day noWrap N t _ ht hn (hN1 _)).mono ?_
  rintro e w2 ⟨rfl, hb2w⟩
  have hbw2 : Below w.heap.size w w2 := ((Below.refl _ _).alloc (Nat.le_refl _) _).trans (hb2w.mono (by simp))
  go_wp2_with fail
  go_ret
  exact ⟨rfl, hbw2⟩

end Go.Proofs.Qxb6616116a
