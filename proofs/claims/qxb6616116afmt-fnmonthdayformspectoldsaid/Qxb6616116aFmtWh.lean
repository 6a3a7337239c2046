/-
  THE LAW OF CASE, AND THE WALK of FnMonthDayFormSpec (3).
-/
import Derived.Test.Qxb6616116aFmtWg
import Derived.Deep.RegionHeld3
namespace Go.Proofs.Qxb6616116aFmt
open Go.RowKit Go.Extern.Stop Go.Stop Go.Extern

theorem swpS_list (t : ByteArray) : (swpS t).data.toList = t.data.toList.map sw := by simp [swpS]

theorem numB_swp (t : ByteArray) : numB (swpS t).data.toList = numB t.data.toList := by
  rw [swpS_list]
  unfold numB
  rw [List.isEmpty_map, List.all_map]
  congr 2
  funext c
  exact isD_sw c

theorem sw_digit (c : UInt8) (h : isD c = true) : sw c = c := all256 (p := fun c => isD c = true → sw c = c) (by decide +kernel) c h

theorem sat_swp (t : ByteArray) (h : numB t.data.toList = true) : (swpS t).data.toList = t.data.toList := by
  rw [swpS_list]
  unfold numB at h
  simp only [Bool.and_eq_true, List.all_eq_true] at h
  conv => rhs; rw [← List.map_id t.data.toList]
  exact List.map_congr_left fun c hc => sw_digit c (h.2 c hc)

theorem valueOf_swp (lo hi : Int) (N : Nat → ByteArray) (n : Nat) (t : ByteArray) : valueOf lo hi N n (swpS t) = valueOf lo hi N n t := by
  unfold valueOf
  rw [swpS_size, numB_swp]
  have e : (fun i => foldsB (swpS t) (N i)) = fun i => foldsB t (N i) := funext fun i => foldsB_swpS t (N i)
  rw [e]
  cases hb : numB t.data.toList with
  | true => rw [sat_swp t hb]
  | false => rfl

theorem ext_swp (t : ByteArray) (a b : Nat) : (swpS t).extract a b = swpS (t.extract a b) := by
  refine bytes_ext ?_
  rw [Lib.extract_data, swpS_list, swpS_list, Lib.extract_data, List.map_take, List.map_drop]

theorem formOf_swp (lo hi : Int) (N : Nat → ByteArray) (n : Nat) (t : ByteArray) : formOf lo hi N n (swpS t) = formOf lo hi N n t := by
  unfold formOf endW
  rw [swpS_size, foldsB_swpS, foldsB_swpS, ext_swp, ext_swp, foldsB_swpS, valueOf_swp]

theorem formOf_kind (lo hi : Int) (N : Nat → ByteArray) (n : Nat) (t : ByteArray) : 0 ≤ (formOf lo hi N n t).kind ∧ (formOf lo hi N n t).kind ≤ 3 := by
  unfold formOf
  split
  · decide
  · split
    · decide
    · split
      · decide
      · split
        · split <;> (dsimp only; decide)
        · decide

set_option maxHeartbeats 2000000 in
theorem law3 (F : Interp) (t nm : ByteArray) (lo hi last : Int) (a : Option Addr) (n c : Nat) (day noWrap : Bool) (N : Nat → ByteArray) (w : World) (hF : F.answers w.tape) (ht : t.size ≤ maxLen) (hnm : nm.size ≤ maxLen) (hn : n ≤ maxLen) (hN : Ns w a n N) (ha : a = none → n = 0 ∧ c = 0) :
    Calls Tryf.prog 3 #[.string t, .string nm, .int .i64 lo, .int .i64 hi, .int .i64 last, .slice a n c, .bool day, .bool noWrap] w fun e w' => e = .returned (.bool true) ∧ Below w.heap.size w w' := by
  go_enter Tryf.func3, Tryf.ntmps3
  go_wp2_with fail
  refine (bytes5 t nm lo hi last a n c day noWrap N _ hn ht hnm hN).mono ?_
  rintro e w' ⟨⟨r, rfl, _⟩, rfl⟩
  cases r
  · go_wp2_with fail
    go_ret
    exact ⟨rfl, Below.refl _ _⟩
  go_wp2_with fail
  refine (fits6 t nm ⟨#[]⟩ a n c N _ hn ht hnm (by decide) hN).mono ?_
  rintro e w' ⟨⟨r, rfl, hfits⟩, rfl⟩
  cases r
  · go_wp2_with fail
    go_ret
    exact ⟨rfl, Below.refl _ _⟩
  have hfi := hfits rfl
  unfold Fits at hfi
  have hsn := sumN_ge N n
  have hts : t.size ≤ 1048576 := by omega
  have hns : n ≤ 1048576 := by omega
  clear hfits hfi hsn
  go_wp2_with fail
  refine (clone7 a n c N _ hns hN ha).mono ?_
  rintro e w2 ⟨a', c', rfl, hb2, hN2⟩
  clear hN ha
  go_wp2_with fail
  refine (field8 nm lo hi last a' n c' day noWrap _).mono ?_
  rintro e w3 ⟨rfl, hb3⟩
  unfold fieldV
  have hN3 := hN2.below hb3
  have hbw3 : Below w.heap.size w w3 := hb2.trans (hb3.mono hb2.size)
  clear hN2 hb2 hb3
  go_wp2_with fail
  have hbw4 := fun o => hbw3.alloc hbw3.size o
  have hN4 := fun o => hN3.below ((Below.refl w3.heap.size w3).alloc (Nat.le_refl _) o)
  have hF3 : F.answers w3.tape := by rw [hbw3.tape]; exact hF
  have htm : t.size ≤ maxLen := ht
  refine (zzMonthDay9 F nm lo hi last a' n c' day noWrap N t _ (by exact hF3) htm hn (hN4 _)).mono ?_
  rintro e w5 ⟨⟨r1, rfl, hr1⟩, hb5⟩
  obtain ⟨hc5, hf5⟩ := bcell hb5
  have hbw5 : Below w.heap.size w w5 := (hbw4 _).trans (hb5.mono (by have := hbw3.size; simp; omega))
  have hN5 := (hN4 _).below hb5
  have hF5 : F.answers w5.tape := by rw [hbw5.tape]; exact hF
  have hz5 : w3.heap.size < w5.heap.size := by have := hb5.size; simp at this; omega
  have e0 : w5.cell? ⟨w3.heap.size, 0, none⟩ = some (.string nm) := by rw [hc5 _ _ (by simp)]; rw [World.cell?_alloc_at (hn := rfl)]; rfl
  have e1 : w5.cell? ⟨w3.heap.size, 1, none⟩ = some (.int .i64 lo) := by rw [hc5 _ _ (by simp)]; rw [World.cell?_alloc_at (hn := rfl)]; rfl
  have e2 : w5.cell? ⟨w3.heap.size, 2, none⟩ = some (.int .i64 hi) := by rw [hc5 _ _ (by simp)]; rw [World.cell?_alloc_at (hn := rfl)]; rfl
  have e3 : w5.cell? ⟨w3.heap.size, 3, none⟩ = some (.int .i64 last) := by rw [hc5 _ _ (by simp)]; rw [World.cell?_alloc_at (hn := rfl)]; rfl
  have e4 : w5.cell? ⟨w3.heap.size, 4, none⟩ = some (.slice a' n c') := by rw [hc5 _ _ (by simp)]; rw [World.cell?_alloc_at (hn := rfl)]; rfl
  have e5 : w5.cell? ⟨w3.heap.size, 5, none⟩ = some (.bool day) := by rw [hc5 _ _ (by simp)]; rw [World.cell?_alloc_at (hn := rfl)]; rfl
  have e6 : w5.cell? ⟨w3.heap.size, 6, none⟩ = some .nilFunc := by rw [hc5 _ _ (by simp)]; rw [World.cell?_alloc_at (hn := rfl)]; rfl
  have e7 : w5.cell? ⟨w3.heap.size, 7, none⟩ = some (.bool noWrap) := by rw [hc5 _ _ (by simp)]; rw [World.cell?_alloc_at (hn := rfl)]; rfl
  clear hc5 hf5 hb5 hN4 hbw4 hbw3 hF3
  have hks := formOf_kind lo hi N n t
  have hsw := formOf_swp lo hi N n t
  have hsz : (swpS t).size ≤ maxLen := by rw [swpS_size]; exact ht
  generalize hfo : formOf lo hi N n t = fo at *
  obtain ⟨K, V, B⟩ := fo
  have HFO : Hid (formOf lo hi N n t = ⟨K, V, B⟩) := hfo
  clear hfo
  obtain ⟨hk0, hk3⟩ := hks
  dsimp only at hr1 hk0 hk3 ⊢
  have HSW : Hid (formOf lo hi N n (swpS t) = ⟨K, V, B⟩) := hsw
  clear hsw
  go_wp2_with fail
  go_region_held3 (fun w' => w'.cell? ⟨w3.heap.size, 0, none⟩ = some (.string nm) ∧ w'.cell? ⟨w3.heap.size, 1, none⟩ = some (.int .i64 lo) ∧ w'.cell? ⟨w3.heap.size, 2, none⟩ = some (.int .i64 hi) ∧ w'.cell? ⟨w3.heap.size, 3, none⟩ = some (.int .i64 last) ∧ w'.cell? ⟨w3.heap.size, 4, none⟩ = some (.slice a' n c') ∧ w'.cell? ⟨w3.heap.size, 5, none⟩ = some (.bool day) ∧ w'.cell? ⟨w3.heap.size, 6, none⟩ = some .nilFunc ∧ w'.cell? ⟨w3.heap.size, 7, none⟩ = some (.bool noWrap)) (go_keep)
    (first
      | (go_at_call 10; refine (swap10 t _ (by omega)).mono ?_; rintro e w6 ⟨rfl, hb6⟩; have k6 : ∀ o, w6.cell? ⟨w3.heap.size, o, none⟩ = w5.cell? ⟨w3.heap.size, o, none⟩ := fun o => hb6.cell (p := ⟨w3.heap.size, o, none⟩) hz5; have hz6 : w3.heap.size < w6.heap.size := Nat.lt_of_lt_of_le hz5 hb6.size; have hbw6 : Below w.heap.size w w6 := hbw5.trans ((Below.refl _ _).drew.trans (hb6.mono (by simpa using hbw5.size))); have hN6 : Ns w6 a' n N := hN5.below (((Below.refl _ _).drew).trans hb6); have hF6 : F.answers w6.tape := (by rw [hbw6.tape]; exact hF))
      | (go_at_call 9; refine (zzMonthDay9 F nm lo hi last a' n c' day noWrap N (swpS t) _ (by exact hF6) hsz hn hN6).mono ?_; rintro e w7 ⟨⟨r2, rfl, hr2⟩, hb7⟩; have k7 : ∀ o, w7.cell? ⟨w3.heap.size, o, none⟩ = w6.cell? ⟨w3.heap.size, o, none⟩ := fun o => hb7.cell (p := ⟨w3.heap.size, o, none⟩) hz6))
  rw [HSW.out] at hr2 ⊢
  dsimp only at hr2 ⊢
  have hbw7 : Below w.heap.size w w7 := hbw6.trans (hb7.mono hbw6.size)
  have hN7 := hN6.below hb7
  clear e0 e1 e2 e3 e4 e5 e6 e7 k6 k7 hb6 hb7 hN5 hN6 hF6 hF5
  go_wp2_with fail
  refine (model11 lo hi a' n c' N t _ (by omega) hns hN7).mono ?_
  rintro e w8 ⟨rfl, hb8⟩
  rw [HFO.out]
  dsimp only
  have hbw8 : Below w.heap.size w w8 := hbw7.trans (hb8.mono hbw7.size)
  clear hb8
  go_wp2_with fail
  rcases hr1 with ⟨rfl, rfl⟩ | ⟨rfl, p1, rfl⟩
  · rcases hr2 with ⟨_, rfl⟩ | ⟨h, _⟩
    · go_quiet (fail)
      go_wp2
      go_ret
      exact ⟨rfl, below_drewN hbw8 _⟩
    · cases h
  · rcases hr2 with ⟨h, _⟩ | ⟨_, p2, rfl⟩
    · cases h
    · go_quiet (fail)
      go_wp2
      go_ret
      exact ⟨rfl, below_drewN hbw8 _⟩

end Go.Proofs.Qxb6616116aFmt
