/-
  THE WALK of FnMonthDayFormNWReadsValue (4).
-/
import Derived.Test.Qxb6616116aFmtWh
namespace Go.Proofs.Qxb6616116aFmt
open Go.RowKit Go.Extern.Stop Go.Stop Go.Extern

theorem app_list (t : ByteArray) (c : UInt8) : (t ++ ⟨#[c]⟩ : ByteArray).data.toList = t.data.toList ++ [c] := by
  rw [ByteArray.data_append]
  simp

theorem app_size (t : ByteArray) (c : UInt8) : (t ++ ⟨#[c]⟩ : ByteArray).size = t.size + 1 := by
  have h := congrArg List.length (app_list t c)
  rw [Array.length_toList, List.length_append, Array.length_toList] at h
  exact h

theorem low_list (t : ByteArray) (c : UInt8) (hc : lo c = 119) : (lowS (t ++ ⟨#[c]⟩)).data.toList = (lowS t).data.toList ++ [119] := by
  rw [lowS_list, app_list, List.map_append, lowS_list]
  simp [hc]

/-- What the nW form reads: what the field reads ahead of the letter. -/
def nwOf (mn mx : Int) (N : Nat → ByteArray) (n : Nat) (t : ByteArray) : Form :=
  if foldsB t ⟨#[108]⟩ = true then ⟨2, 0, false⟩ else match valueOf mn mx N n t with
    | some v => ⟨3, v, false⟩
    | none => ⟨0, 0, true⟩

theorem form_nw (mn mx : Int) (N : Nat → ByteArray) (n : Nat) (t : ByteArray) (c : UInt8) (hc : lo c = 119) : formOf mn mx N n (t ++ ⟨#[c]⟩) = nwOf mn mx N n t := by
  have hl := low_list t c hc
  have f1 : foldsB (t ++ ⟨#[c]⟩) ⟨#[108]⟩ = false := by
    unfold foldsB
    refine decide_eq_false fun e => ?_
    have h2 := congrArg (fun b : ByteArray => b.data.toList) e
    simp only [hl] at h2
    have h3 := congrArg List.getLast? h2
    simp at h3
  have f2 : foldsB (t ++ ⟨#[c]⟩) ⟨#[108, 119]⟩ = foldsB t ⟨#[108]⟩ := by
    unfold foldsB
    rw [decide_eq_decide]
    constructor
    · intro e
      have h2 := congrArg (fun b : ByteArray => b.data.toList) e
      simp only [hl] at h2
      have h3 : (lowS t).data.toList ++ [119] = [108] ++ [119] := h2
      exact bytes_ext (List.append_cancel_right h3)
    · intro e
      refine bytes_ext ?_
      rw [hl, e]
      rfl
  have f3 : ¬ (t ++ ⟨#[c]⟩ : ByteArray).size = 0 := by rw [app_size]; omega
  have x1 : (t ++ ⟨#[c]⟩ : ByteArray).extract 0 ((t ++ ⟨#[c]⟩ : ByteArray).size - 1) = t := by
    refine bytes_ext ?_
    rw [Lib.extract_data, app_size, app_list]
    simp
  have f4 : endW (t ++ ⟨#[c]⟩) = true := by
    unfold endW foldsB
    refine decide_eq_true (bytes_ext ?_)
    rw [lowS_list, Lib.extract_data, app_size, app_list]
    have e1 : t.size + 1 - 1 = t.data.toList.length := by rw [Array.length_toList]; rfl
    have e2 : t.size + 1 - (t.size + 1 - 1) = 1 := by omega
    rw [e2, e1, List.drop_left]
    simp [hc]
  unfold formOf nwOf
  rw [f1, f2, f4, x1, if_neg (by simp), if_neg f3, if_pos rfl]
  cases foldsB t ⟨#[108]⟩ <;> cases valueOf mn mx N n t <;> rfl

theorem value_num (mn mx : Int) (N : Nat → ByteArray) (n : Nat) (t : ByteArray) (hnb : numB t.data.toList = true) (hx : ff (fun i => decide (N i = lowS t)) n = none) :
    valueOf mn mx N n t = if ((satVal t.data.toList : Nat) : Int) < mn ∨ mx < ((satVal t.data.toList : Nat) : Int) then none else some ((satVal t.data.toList : Nat) : Int) := by
  have h0 : ¬ t.size = 0 := fun h => by rw [numB_empty h] at hnb; cases hnb
  unfold valueOf
  rw [if_neg h0, value_idx, hx]
  simp only []
  rw [hnb, if_pos rfl]

theorem range_some {mn mx s v : Int} (h : some v = if s < mn ∨ mx < s then none else some s) : v = s ∧ mn ≤ s ∧ s ≤ mx := by
  by_cases c : s < mn ∨ mx < s
  · rw [if_pos c] at h; cases h
  · rw [if_neg c] at h
    exact ⟨Option.some.inj h, by omega, by omega⟩

theorem range_none {mn mx s : Int} (h : none = if s < mn ∨ mx < s then none else some s) : s < mn ∨ mx < s := by
  by_cases c : s < mn ∨ mx < s
  · exact c
  · rw [if_neg c] at h; cases h

theorem nwOf_kind (mn mx : Int) (N : Nat → ByteArray) (n : Nat) (t : ByteArray) : 0 ≤ (nwOf mn mx N n t).kind ∧ (nwOf mn mx N n t).kind ≤ 3 := by
  unfold nwOf
  split
  · decide
  · split <;> (dsimp only; decide)

set_option maxRecDepth 100000 in
set_option maxHeartbeats 4000000 in
theorem law4 (F : Interp) (t nm : ByteArray) (lo hi last : Int) (a : Option Addr) (n c : Nat) (day noWrap : Bool) (N : Nat → ByteArray) (w : World) (hF : F.answers w.tape) (ht : t.size ≤ maxLen) (hnm : nm.size ≤ maxLen) (hn : n ≤ maxLen) (hN : Ns w a n N) (ha : a = none → n = 0 ∧ c = 0) :
    Calls Tryf.prog 4 #[.string t, .string nm, .int .i64 lo, .int .i64 hi, .int .i64 last, .slice a n c, .bool day, .bool noWrap] w fun e w' => e = .returned (.bool true) ∧ Below w.heap.size w w' := by
  go_enter Tryf.func4, Tryf.ntmps4
  go_wp2_with fail
  refine (bytes12 t nm lo hi last a n c day noWrap N _ hn ht hnm hN).mono ?_
  rintro e w' ⟨⟨r, rfl, _⟩, rfl⟩
  cases r
  · go_wp2_with fail
    go_ret
    exact ⟨rfl, Below.refl _ _⟩
  go_wp2_with fail
  refine (fits6 t nm ⟨#[87]⟩ a n c N _ hn ht hnm (by decide) hN).mono ?_
  rintro e w' ⟨⟨r, rfl, hfits⟩, rfl⟩
  cases r
  · go_wp2_with fail
    go_ret
    exact ⟨rfl, Below.refl _ _⟩
  have hfi := hfits rfl
  unfold Fits at hfi
  have hsn := sumN_ge N n
  have hts : t.size ≤ 1048576 := by omega
  have hns : n ≤ 1048576 := by omega
  clear hfits hfi hsn
  go_wp2_with fail
  refine (clone7 a n c N _ hns hN ha).mono ?_
  rintro e w2 ⟨a', c', rfl, hb2, hN2⟩
  clear hN ha
  go_wp2_with fail
  refine (field8 nm lo hi last a' n c' day noWrap _).mono ?_
  rintro e w3 ⟨rfl, hb3⟩
  unfold fieldV
  have hN3 := hN2.below hb3
  have hbw3 : Below w.heap.size w w3 := hb2.trans (hb3.mono hb2.size)
  clear hN2 hb2 hb3
  go_wp2_with fail
  have hbw4 := fun o => hbw3.alloc hbw3.size o
  have hN4 := fun o => hN3.below ((Below.refl w3.heap.size w3).alloc (Nat.le_refl _) o)
  have hF3 : F.answers w3.tape := by rw [hbw3.tape]; exact hF
  have htm : t.size ≤ maxLen := ht
  have hpu := form_nw lo hi N n t 87 (by decide)
  have hpl := form_nw lo hi N n t 119 (by decide)
  have hkk := nwOf_kind lo hi N n t
  have hs1 : (t ++ ⟨#[87]⟩ : ByteArray).size ≤ maxLen := by rw [app_size]; unfold maxLen; omega
  have hs2 : (t ++ ⟨#[119]⟩ : ByteArray).size ≤ maxLen := by rw [app_size]; unfold maxLen; omega
  refine (zzMonthDay9 F nm lo hi last a' n c' day noWrap N _ _ (by exact hF3) hs1 hn (hN4 _)).mono ?_
  rintro e w5 ⟨⟨r1, rfl, hr1⟩, hb5⟩
  rw [hpu] at hr1 ⊢
  obtain ⟨hc5, hf5⟩ := bcell hb5
  have hbw5 : Below w.heap.size w w5 := (hbw4 _).trans (hb5.mono (by have := hbw3.size; simp; omega))
  have hN5 := (hN4 _).below hb5
  have hF5 : F.answers w5.tape := by rw [hbw5.tape]; exact hF
  have hz5 : w3.heap.size < w5.heap.size := by have := hb5.size; simp at this; omega
  have e0 : w5.cell? ⟨w3.heap.size, 0, none⟩ = some (.string nm) := by rw [hc5 _ _ (by simp)]; rw [World.cell?_alloc_at (hn := rfl)]; rfl
  have e1 : w5.cell? ⟨w3.heap.size, 1, none⟩ = some (.int .i64 lo) := by rw [hc5 _ _ (by simp)]; rw [World.cell?_alloc_at (hn := rfl)]; rfl
  have e2 : w5.cell? ⟨w3.heap.size, 2, none⟩ = some (.int .i64 hi) := by rw [hc5 _ _ (by simp)]; rw [World.cell?_alloc_at (hn := rfl)]; rfl
  have e3 : w5.cell? ⟨w3.heap.size, 3, none⟩ = some (.int .i64 last) := by rw [hc5 _ _ (by simp)]; rw [World.cell?_alloc_at (hn := rfl)]; rfl
  have e4 : w5.cell? ⟨w3.heap.size, 4, none⟩ = some (.slice a' n c') := by rw [hc5 _ _ (by simp)]; rw [World.cell?_alloc_at (hn := rfl)]; rfl
  have e5 : w5.cell? ⟨w3.heap.size, 5, none⟩ = some (.bool day) := by rw [hc5 _ _ (by simp)]; rw [World.cell?_alloc_at (hn := rfl)]; rfl
  have e6 : w5.cell? ⟨w3.heap.size, 6, none⟩ = some .nilFunc := by rw [hc5 _ _ (by simp)]; rw [World.cell?_alloc_at (hn := rfl)]; rfl
  have e7 : w5.cell? ⟨w3.heap.size, 7, none⟩ = some (.bool noWrap) := by rw [hc5 _ _ (by simp)]; rw [World.cell?_alloc_at (hn := rfl)]; rfl
  clear hc5 hf5 hb5 hN4 hbw4 hbw3 hF3 hpu
  generalize hfo : nwOf lo hi N n t = fo at *
  obtain ⟨K, V, B⟩ := fo
  obtain ⟨hk0, hk3⟩ := hkk
  dsimp only at hr1 hk0 hk3 ⊢
  have HFO : Hid (nwOf lo hi N n t = ⟨K, V, B⟩) := hfo
  have HPL : Hid (formOf lo hi N n (t ++ ⟨#[119]⟩) = ⟨K, V, B⟩) := hpl
  clear hfo hpl
  go_wp2_with fail
  refine (zzMonthDay9 F nm lo hi last a' n c' day noWrap N _ _ hF5 hs2 hn hN5).mono ?_
  rintro e w6 ⟨⟨r2, rfl, hr2⟩, hb6⟩
  rw [HPL.out] at hr2 ⊢
  dsimp only at hr2 ⊢
  have g0 := (hb6.cell (p := ⟨w3.heap.size, 0, none⟩) hz5).trans e0
  have g1 := (hb6.cell (p := ⟨w3.heap.size, 1, none⟩) hz5).trans e1
  have g2 := (hb6.cell (p := ⟨w3.heap.size, 2, none⟩) hz5).trans e2
  have g3 := (hb6.cell (p := ⟨w3.heap.size, 3, none⟩) hz5).trans e3
  have g4 := (hb6.cell (p := ⟨w3.heap.size, 4, none⟩) hz5).trans e4
  have g5 := (hb6.cell (p := ⟨w3.heap.size, 5, none⟩) hz5).trans e5
  have g6 := (hb6.cell (p := ⟨w3.heap.size, 6, none⟩) hz5).trans e6
  have g7 := (hb6.cell (p := ⟨w3.heap.size, 7, none⟩) hz5).trans e7
  have hbw6 : Below w.heap.size w w6 := hbw5.trans (hb6.mono hbw5.size)
  have hN6 := hN5.below hb6
  have hF6 : F.answers w6.tape := by rw [hbw6.tape]; exact hF
  clear e0 e1 e2 e3 e4 e5 e6 e7 hb6 hN5 hF5 HPL hs1 hs2
  go_wp2_with fail
  refine (fieldValue13 F nm lo hi last a' n c' day noWrap N t _ hF6 htm hn hN6).mono ?_
  rintro e w7 ⟨⟨r3, rfl, hr3, hr4⟩, hb7⟩
  have hbw7 : Below w.heap.size w w7 := hbw6.trans (hb7.mono hbw6.size)
  have hN7 := hN6.below hb7
  clear g0 g1 g2 g3 g4 g5 g6 g7 hb7 hN6 hF6
  go_wp2_with fail
  have q1 := folds_beq t [108]
  cases hl : foldsB t ⟨#[108]⟩ with
  | true =>
    rw [hl] at q1
    have hfo := HFO.out
    unfold nwOf at hfo
    rw [hl, if_pos rfl, Form.mk.injEq] at hfo
    obtain ⟨rfl, rfl, rfl⟩ := hfo
    rcases hr1 with ⟨_, rfl⟩ | ⟨h, _⟩
    · rcases hr2 with ⟨_, rfl⟩ | ⟨h, _⟩
      · clear hr3 hr4
        go_quiet (fail)
        go_wp2_with fail
        refine (lower14 t _ (by omega)).mono ?_
        rintro e w8 ⟨rfl, hb8⟩
        have hbw8 : Below w.heap.size w w8 := (below_drewN hbw7 _).trans (hb8.mono hbw7.size)
        have hN8 : Ns w8 a' n N := (hN7.below (below_drewN (Below.refl _ _) _)).below hb8
        clear hb8 hN7
        go_wp2_with fail
        go_ret
        exact ⟨rfl, hbw8⟩
      · cases h
    · cases h
  | false =>
    rw [hl] at q1
    have hfo := HFO.out
    unfold nwOf at hfo
    rw [hl, if_neg (by simp)] at hfo
    cases hv : valueOf lo hi N n t with
    | some v =>
      rw [hv] at hfo hr3 hr4
      rw [Form.mk.injEq] at hfo
      obtain ⟨rfl, rfl, rfl⟩ := hfo
      obtain rfl := hr3 rfl
      clear hr4 hr3
      rcases hr1 with ⟨_, rfl⟩ | ⟨h, _⟩
      · rcases hr2 with ⟨_, rfl⟩ | ⟨h, _⟩
        · have HV : Hid (valueOf lo hi N n t = some v) := hv
          clear hv
          dsimp only [Option.getD_some]
          go_quiet (fail)
          go_wp2_with fail
          refine (lower14 t _ (by omega)).mono ?_
          rintro e w8 ⟨rfl, hb8⟩
          have hbw8 : Below w.heap.size w w8 := (below_drewN hbw7 _).trans (hb8.mono hbw7.size)
          have hN8 : Ns w8 a' n N := (hN7.below (below_drewN (Below.refl _ _) _)).below hb8
          clear hb8 hN7
          go_wp2_with fail
          go_quiet (fail)
          go_wp2_with fail
          refine (digits15 t _ htm).mono ?_
          rintro e w9 ⟨rfl, rfl⟩
          cases hnb : numB t.data.toList with
          | false =>
            go_wp2_with fail
            go_ret
            exact ⟨rfl, below_drewN hbw8 _⟩
          | true =>
            by_cases h4 : (t.size : Int) ≤ 4
            · cases hx : ff (fun i => decide (N i = lowS t)) n with
              | some i =>
                have hid : idxOf N n (lowS t) = (i : Int) := by unfold idxOf; rw [hx]
                have hge : ¬ (i : Int) < 0 := by omega
                clear hx
                go_wp2_with fail
                refine (index16 (lowS t) a' n c' N _ hn (hN8.below (below_drewN (Below.refl _ _) _))).mono ?_
                rintro e w9 ⟨rfl, rfl⟩
                rw [hid]
                go_wp2_with fail
                go_ret
                exact ⟨rfl, below_drewN hbw8 _⟩
              | none =>
                have hid : idxOf N n (lowS t) = -1 := by unfold idxOf; rw [hx]
                have hall : t.data.toList.all isD = true := by have h := hnb; unfold numB at h; simp only [Bool.and_eq_true] at h; exact h.2
                have hnu := numeral_eq t.data.toList hall
                have hle := satVal_le t.data.toList
                have hvr := value_num lo hi N n t hnb hx
                rw [HV.out] at hvr
                obtain ⟨rfl, o1, o2⟩ := range_some hvr
                clear hx hvr
                go_wp2_with fail
                refine (index16 (lowS t) a' n c' N _ hn (hN8.below (below_drewN (Below.refl _ _) _))).mono ?_
                rintro e w9 ⟨rfl, rfl⟩
                rw [hid]
                go_wp2_with fail
                refine (numeral17 t _ htm hall).mono ?_
                rintro e w9 ⟨rfl, rfl⟩
                rw [hnu]
                go_wp2_with fail
                go_ret
                exact ⟨rfl, below_drewN hbw8 _⟩
            · go_wp2_with fail
              go_ret
              exact ⟨rfl, below_drewN hbw8 _⟩
        · cases h
      · cases h
    | none =>
      rw [hv] at hfo hr3 hr4
      rw [Form.mk.injEq] at hfo
      obtain ⟨rfl, rfl, rfl⟩ := hfo
      obtain ⟨p3, rfl⟩ := hr4 rfl
      clear hr4 hr3
      rcases hr1 with ⟨h, _⟩ | ⟨_, p1, rfl⟩
      · cases h
      · rcases hr2 with ⟨h, _⟩ | ⟨_, p2, rfl⟩
        · cases h
        · have HV : Hid (valueOf lo hi N n t = none) := hv
          clear hv
          dsimp only [Option.getD_none]
          go_quiet (fail)
          go_wp2_with fail
          refine (lower14 t _ (by omega)).mono ?_
          rintro e w8 ⟨rfl, hb8⟩
          have hbw8 : Below w.heap.size w w8 := (below_drewN hbw7 _).trans (hb8.mono hbw7.size)
          have hN8 : Ns w8 a' n N := (hN7.below (below_drewN (Below.refl _ _) _)).below hb8
          clear hb8 hN7
          go_wp2_with fail
          go_quiet (fail)
          go_wp2_with fail
          refine (digits15 t _ htm).mono ?_
          rintro e w9 ⟨rfl, rfl⟩
          cases hnb : numB t.data.toList with
          | false =>
            go_wp2_with fail
            go_ret
            exact ⟨rfl, below_drewN hbw8 _⟩
          | true =>
            by_cases h4 : (t.size : Int) ≤ 4
            · cases hx : ff (fun i => decide (N i = lowS t)) n with
              | some i =>
                have hid : idxOf N n (lowS t) = (i : Int) := by unfold idxOf; rw [hx]
                have hge : ¬ (i : Int) < 0 := by omega
                clear hx
                go_wp2_with fail
                refine (index16 (lowS t) a' n c' N _ hn (hN8.below (below_drewN (Below.refl _ _) _))).mono ?_
                rintro e w9 ⟨rfl, rfl⟩
                rw [hid]
                go_wp2_with fail
                go_ret
                exact ⟨rfl, below_drewN hbw8 _⟩
              | none =>
                have hid : idxOf N n (lowS t) = -1 := by unfold idxOf; rw [hx]
                have hall : t.data.toList.all isD = true := by have h := hnb; unfold numB at h; simp only [Bool.and_eq_true] at h; exact h.2
                have hnu := numeral_eq t.data.toList hall
                have hle := satVal_le t.data.toList
                have hvr := value_num lo hi N n t hnb hx
                rw [HV.out] at hvr
                have o1 := range_none hvr
                clear hx hvr
                go_wp2_with fail
                refine (index16 (lowS t) a' n c' N _ hn (hN8.below (below_drewN (Below.refl _ _) _))).mono ?_
                rintro e w9 ⟨rfl, rfl⟩
                rw [hid]
                go_wp2_with fail
                refine (numeral17 t _ htm hall).mono ?_
                rintro e w9 ⟨rfl, rfl⟩
                rw [hnu]
                by_cases o2 : lo ≤ ((satVal t.data.toList : Nat) : Int)
                · have o3 : decide (((satVal t.data.toList : Nat) : Int) ≤ hi) = false := decide_eq_false (by omega)
                  clear o1
                  go_wp2_with fail
                  go_ret
                  exact ⟨rfl, below_drewN hbw8 _⟩
                · clear o1
                  go_wp2_with fail
                  go_ret
                  exact ⟨rfl, below_drewN hbw8 _⟩
            · go_wp2_with fail
              go_ret
              exact ⟨rfl, below_drewN hbw8 _⟩

end Go.Proofs.Qxb6616116aFmt
