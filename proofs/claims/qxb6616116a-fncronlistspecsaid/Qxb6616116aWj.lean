/-
  WALKS: zzBytes of FnCronListCommaJoin (14), FnCronListCommaJoin (4), FnCronListSpec (3).
-/
import Derived.Test.Qxb6616116aWi
namespace Go.Proofs.Qxb6616116a
open Go.RowKit

set_option maxHeartbeats 1000000 in
theorem bytes14 (sa sb sc : ByteArray) (x y z : Int) (a : Option Addr) (n c : Nat) (p q : Bool) (N : Nat → ByteArray) (w : World) (hn : n ≤ maxLen) (h0 : sa.size ≤ maxLen) (h1 : sb.size ≤ maxLen) (h2 : sc.size ≤ maxLen) (hN : Ns w a n N) :
    Calls Try.prog 14 #[.string sa, .string sb, .string sc, .int .i64 x, .int .i64 y, .int .i64 z, .slice a n c, .bool p, .bool q] w fun e w' => ABool e True ∧ w = w' := by
  unfold maxLen at hn h0 h1 h2
  by_cases q0 : (1048576 : Int) < (sa.size : Int)
  · go_enter Try.func14, Try.ntmps14
    go_wp2
    go_ret
    exact ⟨⟨false, rfl, by simp⟩, rfl⟩
  by_cases q1 : (1048576 : Int) < (sb.size : Int)
  · go_enter Try.func14, Try.ntmps14
    go_wp2
    go_ret
    exact ⟨⟨false, rfl, by simp⟩, rfl⟩
  by_cases q2 : (1048576 : Int) < (sa.size : Int) + (sb.size : Int)
  · go_enter Try.func14, Try.ntmps14
    go_wp2
    go_ret
    exact ⟨⟨false, rfl, by simp⟩, rfl⟩
  by_cases q3 : (1048576 : Int) < (sc.size : Int)
  · go_enter Try.func14, Try.ntmps14
    go_wp2
    go_ret
    exact ⟨⟨false, rfl, by simp⟩, rfl⟩
  by_cases q4 : (1048576 : Int) < (sa.size : Int) + (sb.size : Int) + (sc.size : Int)
  · go_enter Try.func14, Try.ntmps14
    go_wp2
    go_ret
    exact ⟨⟨false, rfl, by simp⟩, rfl⟩
  by_cases q5 : (1048576 : Int) < (n : Int)
  · go_enter Try.func14, Try.ntmps14
    go_wp2
    go_ret
    exact ⟨⟨false, rfl, by simp⟩, rfl⟩
  by_cases q6 : (1048576 : Int) < (sa.size : Int) + (sb.size : Int) + (sc.size : Int) + (n : Int)
  · go_enter Try.func14, Try.ntmps14
    go_wp2
    go_ret
    exact ⟨⟨false, rfl, by simp⟩, rfl⟩
  have p0 : decide ((1048576 : Int) < (sa.size : Int)) = false := decide_eq_false q0
  have p1 : decide ((1048576 : Int) < (sb.size : Int)) = false := decide_eq_false q1
  have p2 : decide ((1048576 : Int) < (sa.size : Int) + (sb.size : Int)) = false := decide_eq_false q2
  have p3 : decide ((1048576 : Int) < (sc.size : Int)) = false := decide_eq_false q3
  have p4 : decide ((1048576 : Int) < (sa.size : Int) + (sb.size : Int) + (sc.size : Int)) = false := decide_eq_false q4
  have p5 : decide ((1048576 : Int) < (n : Int)) = false := decide_eq_false q5
  have p6 : decide ((1048576 : Int) < (sa.size : Int) + (sb.size : Int) + (sc.size : Int) + (n : Int)) = false := decide_eq_false q6
  go_enter Try.func14, Try.ntmps14
  go_wp2
  go_loop [19, 20] (fun t i => ∃ k : Nat, ∃ v : Int, k ≤ n ∧ i = .int .i64 k ∧ t = .int .i64 v ∧ 0 ≤ v ∧ v ≤ 1048576) (fun _ i => n - (intOf i).toNat)
  case atStart => exact ⟨0, _, Nat.zero_le _, rfl, rfl, by omega, by omega⟩
  case round =>
    obtain ⟨k, v, hk, rfl, rfl, hv0, hv1⟩ := hrel
    by_cases hlt : k < n
    · obtain ⟨b, off, rfl, hb, c0, l0⟩ := hN k hlt
      unfold maxLen at l0
      have i1 : (k : Int) < (n : Int) := by omega
      go_wp2
      all_goals first
        | (go_ret; exact ⟨⟨false, rfl, by simp⟩, rfl⟩)
        | (go_round
           case rel => exact ⟨k + 1, _, by omega, by go_num, rfl, by omega, by omega⟩
           case measure => simp [intOf]; omega)
    · go_wp2
      go_ret
      exact ⟨⟨true, rfl, by intro _; trivial⟩, rfl⟩

theorem lf_le (V : List UInt8 → Bool) (L : List UInt8) : ∀ f p, p ≤ L.length → lf V L f p ≤ L.length
  | 0, _, _ => Nat.le_refl _
  | f + 1, p, hp => by
    simp only [lf]
    cases ht : termOf V (L.drop p) with
    | none => exact Nat.le_refl _
    | some n =>
      have h1 := term_le ht
      rw [List.length_drop] at h1
      dsimp only
      by_cases hc : hd 44 (L.drop (p + n)) = true
      · rw [if_pos hc]
        have := hd_drop hc
        exact lf_le V L f _ (by omega)
      · rw [if_neg hc]
        omega

theorem listOf_le (V : List UInt8 → Bool) (L : List UInt8) : listOf V L ≤ L.length := lf_le V L _ 0 (Nat.zero_le _)

theorem cat_list (s t : ByteArray) : (s ++ t : ByteArray).data.toList = s.data.toList ++ t.data.toList := by
  rw [ByteArray.data_append]; simp

theorem cat_size (s t : ByteArray) : (s ++ t : ByteArray).size = s.size + t.size := by
  have h := congrArg List.length (cat_list s t)
  rw [List.length_append, len_eq, len_eq, len_eq] at h
  exact h

theorem swpS_list (t : ByteArray) : (swpS t).data.toList = t.data.toList.map sw := by simp [swpS]

theorem list_swp (N : Nat → ByteArray) (n : Nat) (t : ByteArray) : listOf (vok N n) (swpS t).data.toList = listOf (vok N n) t.data.toList := by
  rw [swpS_list]
  exact listOf_map _ (vok_swp N n) _

theorem join_rel (N : Nat → ByteArray) (n : Nat) (sa sb : ByteArray) :
    Rel (vok N n) sa.data.toList sb.data.toList (listOf (vok N n) (sa ++ (⟨#[44]⟩ : ByteArray) ++ sb : ByteArray).data.toList) (listOf (vok N n) (sa ++ (⟨#[32]⟩ : ByteArray) : ByteArray).data.toList) := by
  have h := list_join (vok N n) sa.data.toList sb.data.toList
  rw [cat_list, cat_list, cat_list]
  have e1 : sa.data.toList ++ (⟨#[44]⟩ : ByteArray).data.toList ++ sb.data.toList = sa.data.toList ++ 44 :: sb.data.toList := by
    rw [List.append_assoc]; rfl
  rw [e1]
  exact h

set_option maxHeartbeats 16000000 in
theorem law4 (sa sb nm : ByteArray) (lo hi last : Int) (a : Option Addr) (n c : Nat) (day noWrap : Bool) (N : Nat → ByteArray) (w : World) (hsa : sa.size ≤ maxLen) (hsb : sb.size ≤ maxLen) (hnm : nm.size ≤ maxLen) (hn : n ≤ maxLen) (hN : Ns w a n N) (ha : a = none → n = 0 ∧ c = 0) :
    Calls Try.prog 4 #[.string sa, .string sb, .string nm, .int .i64 lo, .int .i64 hi, .int .i64 last, .slice a n c, .bool day, .bool noWrap] w fun e w' => e = .returned (.bool true) ∧ Below w.heap.size w w' := by
  go_enter Try.func4, Try.ntmps4
  go_wp2_with fail
  refine (bytes14 sa sb nm lo hi last a n c day noWrap N _ hn hsa hsb hnm hN).mono ?_
  rintro e w' ⟨⟨r, rfl, _⟩, rfl⟩
  cases r
  · go_wp2_with fail
    go_ret
    exact ⟨rfl, Below.refl _ _⟩
  go_wp2_with fail
  refine (fits8 sa sb nm a n c N _ hn hsa hsb hnm hN).mono ?_
  rintro e w' ⟨⟨r, rfl, hfits⟩, rfl⟩
  cases r
  · go_wp2_with fail
    go_ret
    exact ⟨rfl, Below.refl _ _⟩
  have hfi := hfits rfl
  unfold Fits at hfi
  have hsn := sumN_ge N n
  have hsas : sa.size ≤ 1048576 := by omega
  have hsbs : sb.size ≤ 1048576 := by omega
  have hns : n ≤ 1048576 := by omega
  clear hfits hfi hsn
  go_wp2_with fail
  refine (clone9 a n c N _ hns hN ha).mono ?_
  rintro e w2 ⟨a', c', rfl, hb2, hN2⟩
  clear hN ha
  go_wp2_with fail
  refine (field10 nm lo hi last a' n c' day noWrap _).mono ?_
  rintro e w3 ⟨rfl, hb3⟩
  unfold fieldV
  have hN3 := hN2.below hb3
  have hbw3 : Below w.heap.size w w3 := hb2.trans (hb3.mono hb2.size)
  clear hN2 hb2 hb3
  have hl1 : (sa ++ (⟨#[44]⟩ : ByteArray) ++ sb : ByteArray).size ≤ 4194304 := by rw [cat_size, cat_size]; show sa.size + 1 + sb.size ≤ _; omega
  have hl2 : (sa ++ (⟨#[32]⟩ : ByteArray) : ByteArray).size ≤ 4194304 := by rw [cat_size]; show sa.size + 1 ≤ _; omega
  have hl3 : sb.size ≤ 4194304 := by omega
  have hbw4 := fun o => hbw3.alloc hbw3.size o
  have hN4 := fun o => hN3.below ((Below.refl w3.heap.size w3).alloc (Nat.le_refl _) o)
  go_wp2_with fail
  refine (zzCronList11 nm lo hi last a' n c' day noWrap N _ _ ?b hns (hN4 _)).mono ?_
  case b => exact hl1
  rintro e w5 ⟨rfl, hb5⟩
  generalize hr1 : listOf (vok N n) (sa ++ (⟨#[44]⟩ : ByteArray) ++ sb : ByteArray).data.toList = r1
  have HR1 : Hid (listOf (vok N n) (sa ++ (⟨#[44]⟩ : ByteArray) ++ sb : ByteArray).data.toList = r1) := hr1
  clear hr1
  have hbw5 : Below w.heap.size w w5 := (hbw4 _).trans (hb5.mono (by have := hbw3.size; simp; omega))
  have hN5 := (hN4 _).below hb5
  have hz5 : w3.heap.size < w5.heap.size := by have := hb5.size; simp at this; omega
  have e0 : w5.cell? ⟨w3.heap.size, 0, none⟩ = some (.string nm) := by rw [hb5.cell (p := ⟨w3.heap.size, 0, none⟩) (by simp)]; rw [World.cell?_alloc_at (hn := rfl)]; rfl
  have e1 : w5.cell? ⟨w3.heap.size, 1, none⟩ = some (.int .i64 lo) := by rw [hb5.cell (p := ⟨w3.heap.size, 1, none⟩) (by simp)]; rw [World.cell?_alloc_at (hn := rfl)]; rfl
  have e2 : w5.cell? ⟨w3.heap.size, 2, none⟩ = some (.int .i64 hi) := by rw [hb5.cell (p := ⟨w3.heap.size, 2, none⟩) (by simp)]; rw [World.cell?_alloc_at (hn := rfl)]; rfl
  have e3 : w5.cell? ⟨w3.heap.size, 3, none⟩ = some (.int .i64 last) := by rw [hb5.cell (p := ⟨w3.heap.size, 3, none⟩) (by simp)]; rw [World.cell?_alloc_at (hn := rfl)]; rfl
  have e4 : w5.cell? ⟨w3.heap.size, 4, none⟩ = some (.slice a' n c') := by rw [hb5.cell (p := ⟨w3.heap.size, 4, none⟩) (by simp)]; rw [World.cell?_alloc_at (hn := rfl)]; rfl
  have e5 : w5.cell? ⟨w3.heap.size, 5, none⟩ = some (.bool day) := by rw [hb5.cell (p := ⟨w3.heap.size, 5, none⟩) (by simp)]; rw [World.cell?_alloc_at (hn := rfl)]; rfl
  have e6 : w5.cell? ⟨w3.heap.size, 6, none⟩ = some .nilFunc := by rw [hb5.cell (p := ⟨w3.heap.size, 6, none⟩) (by simp)]; rw [World.cell?_alloc_at (hn := rfl)]; rfl
  have e7 : w5.cell? ⟨w3.heap.size, 7, none⟩ = some (.bool noWrap) := by rw [hb5.cell (p := ⟨w3.heap.size, 7, none⟩) (by simp)]; rw [World.cell?_alloc_at (hn := rfl)]; rfl
  clear hb5 hN4 hbw4 hbw3 hN3
  go_wp2_with fail
  refine (zzCronList11 nm lo hi last a' n c' day noWrap N _ _ ?b hns hN5).mono ?_
  case b => exact hl2
  rintro e w6 ⟨rfl, hb6⟩
  generalize hr2 : listOf (vok N n) (sa ++ (⟨#[32]⟩ : ByteArray) : ByteArray).data.toList = r2
  have HR2 : Hid (listOf (vok N n) (sa ++ (⟨#[32]⟩ : ByteArray) : ByteArray).data.toList = r2) := hr2
  clear hr2
  have hbw6 : Below w.heap.size w w6 := hbw5.trans (hb6.mono hbw5.size)
  have hN6 := hN5.below hb6
  have hz6 : w3.heap.size < w6.heap.size := Nat.lt_of_lt_of_le hz5 hb6.size
  rw [← hb6.cell (p := ⟨w3.heap.size, 0, none⟩) hz5] at e0
  rw [← hb6.cell (p := ⟨w3.heap.size, 1, none⟩) hz5] at e1
  rw [← hb6.cell (p := ⟨w3.heap.size, 2, none⟩) hz5] at e2
  rw [← hb6.cell (p := ⟨w3.heap.size, 3, none⟩) hz5] at e3
  rw [← hb6.cell (p := ⟨w3.heap.size, 4, none⟩) hz5] at e4
  rw [← hb6.cell (p := ⟨w3.heap.size, 5, none⟩) hz5] at e5
  rw [← hb6.cell (p := ⟨w3.heap.size, 6, none⟩) hz5] at e6
  rw [← hb6.cell (p := ⟨w3.heap.size, 7, none⟩) hz5] at e7
  clear hb6 hN5 hbw5
  go_wp2_with fail
  refine (zzCronList11 nm lo hi last a' n c' day noWrap N sb _ hl3 hns hN6).mono ?_
  rintro e w7 ⟨rfl, hb7⟩
  have hbw7 : Below w.heap.size w w7 := hbw6.trans (hb7.mono hbw6.size)
  have hN7 := hN6.below hb7
  clear hb7 hN6 hbw6 e0 e1 e2 e3 e4 e5 e6 e7
  have hrel := join_rel N n sa sb
  rw [HR1.out, HR2.out] at hrel
  have hle3 := listOf_le (vok N n) sb.data.toList
  unfold Rel at hrel
  rw [len_eq] at hle3
  simp only [len_eq] at hrel
  generalize listOf (vok N n) sb.data.toList = r3 at *
  rcases hrel with ⟨hlt, rfl⟩ | ⟨rfl, rfl⟩ | ⟨rfl, rfl⟩
  · have q1 : (r1 : Int) < (sa.size : Int) := by omega
    go_wp2_with fail
    refine (modelList13 _ a' n c' N _ ?b hns hN7).mono ?_
    case b => exact hl2
    rintro e w8 ⟨rfl, hb8⟩
    rw [HR2.out]
    have hbw8 : Below w.heap.size w w8 := hbw7.trans (hb8.mono hbw7.size)
    go_wp2_with fail
    go_ret
    exact ⟨rfl, hbw8⟩
  · have q1 : ¬ (sa.size : Int) < (sa.size : Int) := by omega
    go_wp2_with fail
    refine (modelList13 _ a' n c' N _ ?b hns hN7).mono ?_
    case b => exact hl2
    rintro e w8 ⟨rfl, hb8⟩
    rw [HR2.out]
    have hbw8 : Below w.heap.size w w8 := hbw7.trans (hb8.mono hbw7.size)
    go_wp2_with fail
    go_ret
    exact ⟨rfl, hbw8⟩
  · have q1 : ¬ (sa.size : Int) + 1 < (sa.size : Int) := by omega
    have q2 : ((sa.size : Int) + 1 == (sa.size : Int)) = false := beq_false_of_ne (by omega)
    go_wp2_with fail
    refine (modelList13 _ a' n c' N _ ?b hns hN7).mono ?_
    case b => exact hl2
    rintro e w8 ⟨rfl, hb8⟩
    rw [HR2.out]
    have hbw8 : Below w.heap.size w w8 := hbw7.trans (hb8.mono hbw7.size)
    go_wp2_with fail
    go_ret
    exact ⟨rfl, hbw8⟩

set_option maxHeartbeats 16000000 in
theorem law3 (t nm : ByteArray) (lo hi last : Int) (a : Option Addr) (n c : Nat) (day noWrap : Bool) (N : Nat → ByteArray) (w : World) (ht : t.size ≤ maxLen) (hnm : nm.size ≤ maxLen) (hn : n ≤ maxLen) (hN : Ns w a n N) (ha : a = none → n = 0 ∧ c = 0) :
    Calls Try.prog 3 #[.string t, .string nm, .int .i64 lo, .int .i64 hi, .int .i64 last, .slice a n c, .bool day, .bool noWrap] w fun e w' => e = .returned (.bool true) ∧ Below w.heap.size w w' := by
  go_enter Try.func3, Try.ntmps3
  go_wp2_with fail
  refine (bytes7 t nm lo hi last a n c day noWrap N _ hn ht hnm hN).mono ?_
  rintro e w' ⟨⟨r, rfl, _⟩, rfl⟩
  cases r
  · go_wp2_with fail
    go_ret
    exact ⟨rfl, Below.refl _ _⟩
  go_wp2_with fail
  refine (fits8 t nm ⟨#[]⟩ a n c N _ hn ht hnm (by decide) hN).mono ?_
  rintro e w' ⟨⟨r, rfl, hfits⟩, rfl⟩
  cases r
  · go_wp2_with fail
    go_ret
    exact ⟨rfl, Below.refl _ _⟩
  have hfi := hfits rfl
  unfold Fits at hfi
  have hsn := sumN_ge N n
  have hts : t.size ≤ 1048576 := by omega
  have hns : n ≤ 1048576 := by omega
  clear hfits hfi hsn
  go_wp2_with fail
  refine (clone9 a n c N _ hns hN ha).mono ?_
  rintro e w2 ⟨a', c', rfl, hb2, hN2⟩
  clear hN ha
  go_wp2_with fail
  refine (field10 nm lo hi last a' n c' day noWrap _).mono ?_
  rintro e w3 ⟨rfl, hb3⟩
  unfold fieldV
  have hN3 := hN2.below hb3
  have hbw3 : Below w.heap.size w w3 := hb2.trans (hb3.mono hb2.size)
  clear hN2 hb2 hb3
  have hl1 : t.size ≤ 4194304 := by omega
  have hl2 : (swpS t).size ≤ 4194304 := by rw [swpS_size]; omega
  have hbw4 := fun o => hbw3.alloc hbw3.size o
  have hN4 := fun o => hN3.below ((Below.refl w3.heap.size w3).alloc (Nat.le_refl _) o)
  go_wp2_with fail
  refine (zzCronList11 nm lo hi last a' n c' day noWrap N _ _ ?b hns (hN4 _)).mono ?_
  case b => exact hl1
  rintro e w5 ⟨rfl, hb5⟩
  have hbw5 : Below w.heap.size w w5 := (hbw4 _).trans (hb5.mono (by have := hbw3.size; simp; omega))
  have hN5 := (hN4 _).below hb5
  have hz5 : w3.heap.size < w5.heap.size := by have := hb5.size; simp at this; omega
  have e0 : w5.cell? ⟨w3.heap.size, 0, none⟩ = some (.string nm) := by rw [hb5.cell (p := ⟨w3.heap.size, 0, none⟩) (by simp)]; rw [World.cell?_alloc_at (hn := rfl)]; rfl
  have e1 : w5.cell? ⟨w3.heap.size, 1, none⟩ = some (.int .i64 lo) := by rw [hb5.cell (p := ⟨w3.heap.size, 1, none⟩) (by simp)]; rw [World.cell?_alloc_at (hn := rfl)]; rfl
  have e2 : w5.cell? ⟨w3.heap.size, 2, none⟩ = some (.int .i64 hi) := by rw [hb5.cell (p := ⟨w3.heap.size, 2, none⟩) (by simp)]; rw [World.cell?_alloc_at (hn := rfl)]; rfl
  have e3 : w5.cell? ⟨w3.heap.size, 3, none⟩ = some (.int .i64 last) := by rw [hb5.cell (p := ⟨w3.heap.size, 3, none⟩) (by simp)]; rw [World.cell?_alloc_at (hn := rfl)]; rfl
  have e4 : w5.cell? ⟨w3.heap.size, 4, none⟩ = some (.slice a' n c') := by rw [hb5.cell (p := ⟨w3.heap.size, 4, none⟩) (by simp)]; rw [World.cell?_alloc_at (hn := rfl)]; rfl
  have e5 : w5.cell? ⟨w3.heap.size, 5, none⟩ = some (.bool day) := by rw [hb5.cell (p := ⟨w3.heap.size, 5, none⟩) (by simp)]; rw [World.cell?_alloc_at (hn := rfl)]; rfl
  have e6 : w5.cell? ⟨w3.heap.size, 6, none⟩ = some .nilFunc := by rw [hb5.cell (p := ⟨w3.heap.size, 6, none⟩) (by simp)]; rw [World.cell?_alloc_at (hn := rfl)]; rfl
  have e7 : w5.cell? ⟨w3.heap.size, 7, none⟩ = some (.bool noWrap) := by rw [hb5.cell (p := ⟨w3.heap.size, 7, none⟩) (by simp)]; rw [World.cell?_alloc_at (hn := rfl)]; rfl
  clear hb5 hN4 hbw4 hbw3 hN3
  have hsw := list_swp N n t
  generalize hr : listOf (vok N n) t.data.toList = r1 at *
  have HR : Hid (listOf (vok N n) t.data.toList = r1) := hr
  clear hr
  go_wp2_with fail
  go_region_held3 (fun w' => w'.cell? ⟨w3.heap.size, 0, none⟩ = some (.string nm) ∧ w'.cell? ⟨w3.heap.size, 1, none⟩ = some (.int .i64 lo) ∧ w'.cell? ⟨w3.heap.size, 2, none⟩ = some (.int .i64 hi) ∧ w'.cell? ⟨w3.heap.size, 3, none⟩ = some (.int .i64 last) ∧ w'.cell? ⟨w3.heap.size, 4, none⟩ = some (.slice a' n c') ∧ w'.cell? ⟨w3.heap.size, 5, none⟩ = some (.bool day) ∧ w'.cell? ⟨w3.heap.size, 6, none⟩ = some .nilFunc ∧ w'.cell? ⟨w3.heap.size, 7, none⟩ = some (.bool noWrap)) (go_keep)
    (first
    | (go_at_call 12; refine (swap12 t _ (by omega)).mono ?_; rintro e w6 ⟨rfl, hb6⟩; have k6 : ∀ o, w6.cell? ⟨w3.heap.size, o, none⟩ = w5.cell? ⟨w3.heap.size, o, none⟩ := fun o => hb6.cell (p := ⟨w3.heap.size, o, none⟩) hz5; have hz6 : w3.heap.size < w6.heap.size := Nat.lt_of_lt_of_le hz5 hb6.size; have hbw6 : Below w.heap.size w w6 := hbw5.trans ((Below.refl _ _).drew.trans (hb6.mono (by simpa using hbw5.size))); have hN6 : Ns w6 a' n N := hN5.below (((Below.refl _ _).drew).trans hb6))
    | (go_at_call 11; refine (zzCronList11 nm lo hi last a' n c' day noWrap N (swpS t) _ hl2 hns hN6).mono ?_; rintro e w7 ⟨rfl, hb7⟩; rw [hsw]; have k7 : ∀ o, w7.cell? ⟨w3.heap.size, o, none⟩ = w6.cell? ⟨w3.heap.size, o, none⟩ := fun o => hb7.cell (p := ⟨w3.heap.size, o, none⟩) hz6))
  have hbw7 : Below w.heap.size w w7 := hbw6.trans (hb7.mono hbw6.size)
  have hN7 := hN6.below hb7
  clear e0 e1 e2 e3 e4 e5 e6 e7 k6 k7 hb6 hb7 hN5 hN6
  go_wp2_with fail
  refine (modelList13 _ a' n c' N _ hl1 hns hN7).mono ?_
  rintro e w8 ⟨rfl, hb8⟩
  rw [HR.out]
  have hbw8 : Below w.heap.size w w8 := hbw7.trans (hb8.mono hbw7.size)
  go_wp2_with fail
  go_ret
  exact ⟨rfl, hbw8⟩

end Go.Proofs.Qxb6616116a
