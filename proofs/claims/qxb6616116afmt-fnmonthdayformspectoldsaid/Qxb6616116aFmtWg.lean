/-
  WALKS: ZZmonthDayForm (9), modelValue (19), modelMonthDayForm (11).
-/
import Derived.Test.Qxb6616116aFmtWf
import Derived.Lib.Strings
namespace Go.Proofs.Qxb6616116aFmt
open Go.RowKit Go.Extern.Stop Go.Stop Go.Extern

set_option maxHeartbeats 1000000 in
theorem zzMonthDay9 (F : Interp) (nm : ByteArray) (lo hi last : Int) (a : Option Addr) (n c : Nat) (day noWrap : Bool) (N : Nat → ByteArray) (t : ByteArray) (w : World) (hF : F.answers w.tape) (ht : t.size ≤ maxLen) (hn : n ≤ maxLen) (hN : Ns w a n N) :
    Calls Tryf.prog 9 #[.string t, .agg #[.string nm, .int .i64 lo, .int .i64 hi, .int .i64 last, .slice a n c, .bool day, .nilFunc, .bool noWrap]] w fun e w' =>
      (∃ r, e = .returned (.tuple #[.int .u8 (formOf lo hi N n t).kind, .int .i64 (formOf lo hi N n t).num, .int .i64 0, r]) ∧ ErrV r (formOf lo hi N n t).bad) ∧ Below w.heap.size w w' := by
  have hN1 := fun o => hN.below ((Below.refl w.heap.size w).alloc (Nat.le_refl _) o)
  generalize hfo : formOf lo hi N n t = fo
  go_enter Tryf.func9, Tryf.ntmps9
  go_wp2_with fail
  refine (monthDay18 F nm lo hi last a n c day noWrap N t _ (by exact hF) ht hn (hN1 _)).mono ?_
  rintro e w1 ⟨⟨r, rfl, hr⟩, hb⟩
  rw [hfo] at hr ⊢
  have hbw : Below w.heap.size w w1 := ((Below.refl _ _).alloc (Nat.le_refl _) _).trans (hb.mono (by simp))
  clear hb hfo
  go_wp2_with fail
  go_quiet (fail)
  go_wp2
  refine bodyPost_ret (v := .tuple #[.int .u8 fo.kind, .int .i64 fo.num, .int .i64 0, r]) ?_ rfl ⟨⟨_, rfl, hr⟩, ?_⟩
  · simp [results, Tryf.results9, go_sem]
  · exact below_drewN (hbw.alloc hbw.size _) _

/-- The model's value: the same, by its own road. -/
theorem value_idx (N : Nat → ByteArray) (n : Nat) (t : ByteArray) : ff (fun i => foldsB t (N i)) n = ff (fun i => decide (N i = lowS t)) n := by
  refine ff_congr n fun j => ?_
  unfold foldsB
  rw [decide_eq_decide]
  exact eq_comm

set_option maxHeartbeats 1000000 in
theorem modelValue19 (lo hi : Int) (a : Option Addr) (n c : Nat) (N : Nat → ByteArray) (t : ByteArray) (w : World) (ht : t.size ≤ 4194304) (hn : n ≤ 1048576) (hN : Ns w a n N) :
    Calls Tryf.prog 19 #[.string t, .int .i64 lo, .int .i64 hi, .slice a n c] w fun e w' => e = .returned (.tuple #[.int .i64 ((valueOf lo hi N n t).getD 0), .bool (valueOf lo hi N n t).isSome]) ∧ Below w.heap.size w w' := by
  have htm : t.size ≤ maxLen := by unfold maxLen; omega
  have hnm : n ≤ maxLen := by unfold maxLen; omega
  by_cases h0 : t.size = 0
  · have hb : t.toList.isEmpty = true := by rw [ByteArray.toList_eq, nil_of_size h0]; rfl
    have hx : valueOf lo hi N n t = none := by unfold valueOf; rw [if_pos h0]
    rw [hx]
    clear hx h0
    go_enter Tryf.func19, Tryf.ntmps19
    go_wp2
    go_ret2
    exact ⟨rfl, Below.refl _ _⟩
  have hb : t.toList.isEmpty = false := by rw [ByteArray.toList_eq]; exact nonempty_of_size h0
  cases hx : ff (fun i => decide (N i = lowS t)) n with
  | some i =>
    have hi1 := ff_lt hx
    have hv : valueOf lo hi N n t = some (wrap64 (lo + (i : Int))) := by unfold valueOf; rw [if_neg h0, value_idx, hx]
    have hid : idxOf N n (lowS t) = (i : Int) := by unfold idxOf; rw [hx]
    have hge : (0 : Int) ≤ (i : Int) := by omega
    rw [hv]
    clear hv hx h0
    go_enter Tryf.func19, Tryf.ntmps19
    go_wp2_with fail
    refine (lower14 t _ ht).mono ?_
    rintro e w1 ⟨rfl, hbw⟩
    go_wp2_with fail
    refine (index16 (lowS t) a n c N _ hnm (hN.below hbw)).mono ?_
    rintro e w2 ⟨rfl, rfl⟩
    rw [hid]
    go_wp2_with fail
    go_ret2
    exact ⟨rfl, hbw⟩
  | none =>
    have hid : idxOf N n (lowS t) = -1 := by unfold idxOf; rw [hx]
    have hv : valueOf lo hi N n t = if numB t.data.toList = true then (if ((satVal t.data.toList : Nat) : Int) < lo ∨ hi < ((satVal t.data.toList : Nat) : Int) then none else some ((satVal t.data.toList : Nat) : Int)) else none := by
      unfold valueOf; rw [if_neg h0, value_idx, hx]
    cases hnb : numB t.data.toList with
    | false =>
      rw [hnb, if_neg (by simp)] at hv
      rw [hv]
      clear hv hx h0
      go_enter Tryf.func19, Tryf.ntmps19
      go_wp2_with fail
      refine (lower14 t _ ht).mono ?_
      rintro e w1 ⟨rfl, hbw⟩
      go_wp2_with fail
      refine (index16 (lowS t) a n c N _ hnm (hN.below hbw)).mono ?_
      rintro e w2 ⟨rfl, rfl⟩
      rw [hid]
      go_wp2_with fail
      refine (digits15 t _ htm).mono ?_
      rintro e w2 ⟨rfl, rfl⟩
      rw [hnb]
      go_wp2_with fail
      go_ret2
      exact ⟨rfl, hbw⟩
    | true =>
      have hall : t.data.toList.all isD = true := by have h := hnb; unfold numB at h; simp only [Bool.and_eq_true] at h; exact h.2
      have hnu := numeral_eq t.data.toList hall
      have hle := satVal_le t.data.toList
      rw [hnb, if_pos rfl] at hv
      by_cases hout : ((satVal t.data.toList : Nat) : Int) < lo ∨ hi < ((satVal t.data.toList : Nat) : Int)
      · rw [if_pos hout] at hv
        rw [hv]
        clear hv hx h0
        by_cases ho1 : ((satVal t.data.toList : Nat) : Int) < lo
        · clear hout
          go_enter Tryf.func19, Tryf.ntmps19
          go_wp2_with fail
          refine (lower14 t _ ht).mono ?_
          rintro e w1 ⟨rfl, hbw⟩
          go_wp2_with fail
          refine (index16 (lowS t) a n c N _ hnm (hN.below hbw)).mono ?_
          rintro e w2 ⟨rfl, rfl⟩
          rw [hid]
          go_wp2_with fail
          refine (digits15 t _ htm).mono ?_
          rintro e w2 ⟨rfl, rfl⟩
          rw [hnb]
          go_wp2_with fail
          refine (numeral17 t _ htm hall).mono ?_
          rintro e w2 ⟨rfl, rfl⟩
          rw [hnu]
          go_wp2_with fail
          go_ret2
          exact ⟨rfl, hbw⟩
        · have ho2 : hi < ((satVal t.data.toList : Nat) : Int) := by omega
          clear hout
          go_enter Tryf.func19, Tryf.ntmps19
          go_wp2_with fail
          refine (lower14 t _ ht).mono ?_
          rintro e w1 ⟨rfl, hbw⟩
          go_wp2_with fail
          refine (index16 (lowS t) a n c N _ hnm (hN.below hbw)).mono ?_
          rintro e w2 ⟨rfl, rfl⟩
          rw [hid]
          go_wp2_with fail
          refine (digits15 t _ htm).mono ?_
          rintro e w2 ⟨rfl, rfl⟩
          rw [hnb]
          go_wp2_with fail
          refine (numeral17 t _ htm hall).mono ?_
          rintro e w2 ⟨rfl, rfl⟩
          rw [hnu]
          go_wp2_with fail
          go_ret2
          exact ⟨rfl, hbw⟩
      · rw [if_neg hout] at hv
        rw [hv]
        clear hv hx h0
        have ho1 : ¬ ((satVal t.data.toList : Nat) : Int) < lo := by omega
        have ho2 : ¬ hi < ((satVal t.data.toList : Nat) : Int) := by omega
        clear hout
        go_enter Tryf.func19, Tryf.ntmps19
        go_wp2_with fail
        refine (lower14 t _ ht).mono ?_
        rintro e w1 ⟨rfl, hbw⟩
        go_wp2_with fail
        refine (index16 (lowS t) a n c N _ hnm (hN.below hbw)).mono ?_
        rintro e w2 ⟨rfl, rfl⟩
        rw [hid]
        go_wp2_with fail
        refine (digits15 t _ htm).mono ?_
        rintro e w2 ⟨rfl, rfl⟩
        rw [hnb]
        go_wp2_with fail
        refine (numeral17 t _ htm hall).mono ?_
        rintro e w2 ⟨rfl, rfl⟩
        rw [hnu]
        go_wp2_with fail
        go_ret2
        exact ⟨rfl, hbw⟩

theorem folds_beq (t : ByteArray) (l : List UInt8) : ((lowS t).toList == l) = foldsB t ⟨l.toArray⟩ := by
  unfold foldsB
  rw [ByteArray.toList_eq]
  by_cases h : (lowS t).data.toList = l
  · have e : lowS t = ⟨l.toArray⟩ := bytes_ext (by rw [h])
    rw [h, e]; simp
  · have e : ¬ lowS t = ⟨l.toArray⟩ := fun e => h (by rw [e])
    simp [h, e]

theorem last_w (t : ByteArray) (h : 0 < t.size) (h2 : (lowS t).size - 1 < (lowS t).size) : (((lowS t)[(lowS t).size - 1].toNat : Int) != 119) = !endW t := by
  have hlt : t.size - 1 < t.size := by omega
  have e1 : (lowS t)[(lowS t).size - 1] = lo t[t.size - 1] := by
    have g : ∀ m, m = t.size - 1 → ∀ h3 : m < (lowS t).size, (lowS t)[m] = lo t[t.size - 1] := fun m hm h3 => by
      subst hm
      have a1 := data_get (lowS t) _ h3
      rw [lowS_list, List.getElem?_map, data_get t (t.size - 1) hlt] at a1
      exact (Option.some.inj a1).symm
    exact g _ (by rw [lowS_size]) h2
  have e2 : endW t = decide (lo t[t.size - 1] = 119) := by
    unfold endW foldsB
    rw [decide_eq_decide]
    have hx : (lowS (t.extract (t.size - 1) t.size)).data.toList = [lo t[t.size - 1]] := by
      rw [lowS_list, Lib.extract_data, List.drop_eq_getElem_cons (by simpa using hlt)]
      have e3 : t.size - (t.size - 1) = 1 := by omega
      rw [e3]
      rfl
    constructor
    · intro e
      have h3 := congrArg (fun b : ByteArray => b.data.toList) e
      simp only [hx] at h3
      exact (List.cons.inj h3).1
    · intro e
      exact bytes_ext (by rw [hx, e])
  rw [e1, e2]
  by_cases h4 : lo t[t.size - 1] = 119
  · rw [h4]; rfl
  · rw [decide_eq_false h4]
    have h5 : (lo t[t.size - 1]).toNat ≠ 119 := fun e => h4 (UInt8.toNat_inj.1 e)
    have h6 : (((lo t[t.size - 1]).toNat : Int) != 119) = true := by rw [bne_iff_ne]; omega
    rw [h6]; rfl

set_option maxHeartbeats 1000000 in
theorem model11 (lo hi : Int) (a : Option Addr) (n c : Nat) (N : Nat → ByteArray) (t : ByteArray) (w : World) (ht : t.size ≤ 4194304) (hn : n ≤ 1048576) (hN : Ns w a n N) :
    Calls Tryf.prog 11 #[.string t, .int .i64 lo, .int .i64 hi, .slice a n c] w fun e w' => e = .returned (.tuple #[.int .i64 (formOf lo hi N n t).kind, .int .i64 (formOf lo hi N n t).num, .bool (formOf lo hi N n t).bad]) ∧ Below w.heap.size w w' := by
  generalize hfo : formOf lo hi N n t = fo
  unfold formOf at hfo
  have q1 := folds_beq t [108]
  have q2 := folds_beq t [108, 119]
  have hls := lowS_size t
  cases h1 : foldsB t ⟨#[108]⟩ with
  | true =>
    rw [h1, if_pos rfl] at hfo
    rw [h1] at q1
    subst hfo
    clear q2 hls
    go_enter Tryf.func11, Tryf.ntmps11
    go_wp2_with fail
    refine (lower14 t _ ht).mono ?_
    rintro e w1 ⟨rfl, hbw⟩
    go_wp2_with fail
    go_ret3
    exact ⟨rfl, hbw⟩
  | false =>
    rw [h1, if_neg (by simp)] at hfo
    rw [h1] at q1
    cases h2 : foldsB t ⟨#[108, 119]⟩ with
    | true =>
      rw [h2, if_pos rfl] at hfo
      rw [h2] at q2
      subst hfo
      clear hls
      go_enter Tryf.func11, Tryf.ntmps11
      go_wp2_with fail
      refine (lower14 t _ ht).mono ?_
      rintro e w1 ⟨rfl, hbw⟩
      go_wp2_with fail
      go_ret3
      exact ⟨rfl, hbw⟩
    | false =>
      rw [h2, if_neg (by simp)] at hfo
      rw [h2] at q2
      by_cases h0 : t.size = 0
      · rw [if_pos h0] at hfo
        subst hfo
        have hz : (((lowS t).size : Int) == 0) = true := by rw [hls, h0]; rfl
        clear hls h0
        go_enter Tryf.func11, Tryf.ntmps11
        go_wp2_with fail
        refine (lower14 t _ ht).mono ?_
        rintro e w1 ⟨rfl, hbw⟩
        go_wp2_with fail
        go_ret3
        exact ⟨rfl, hbw⟩
      · rw [if_neg h0] at hfo
        have hz : (((lowS t).size : Int) == 0) = false := beq_eq_false_iff_ne.2 (by rw [hls]; omega)
        have hb1 : (1 : Int) ≤ ((lowS t).size : Int) := by rw [hls]; omega
        have hb2 : ((lowS t).size : Int) ≤ 4194304 := by rw [hls]; omega
        have hb3 : (1 : Int) ≤ (t.size : Int) := by omega
        have hb4 : (lowS t).size - 1 < (lowS t).size := by omega
        have hlw := last_w t (by omega) hb4
        clear hls h0
        cases hw : endW t with
        | false =>
          rw [hw, if_neg (by simp)] at hfo
          rw [hw] at hlw
          subst hfo
          go_enter Tryf.func11, Tryf.ntmps11
          go_wp2_with fail
          refine (lower14 t _ ht).mono ?_
          rintro e w1 ⟨rfl, hbw⟩
          go_wp2_with fail
          go_ret3
          exact ⟨rfl, hbw⟩
        | true =>
          rw [hw, if_pos rfl] at hfo
          rw [hw] at hlw
          have hxs : (t.extract 0 (t.size - 1)).size ≤ 4194304 := by rw [ByteArray.size_extract]; omega
          cases hv : valueOf lo hi N n (t.extract 0 (t.size - 1)) with
          | some v =>
            rw [hv] at hfo
            subst hfo
            go_enter Tryf.func11, Tryf.ntmps11
            go_wp2_with fail
            refine (lower14 t _ ht).mono ?_
            rintro e w1 ⟨rfl, hbw⟩
            go_wp2_with fail
            refine (modelValue19 lo hi a n c N _ _ hxs hn (hN.below hbw)).mono ?_
            rintro e w2 ⟨rfl, hb2⟩
            rw [hv]
            go_wp2_with fail
            go_ret3
            exact ⟨rfl, hbw.trans (hb2.mono hbw.size)⟩
          | none =>
            rw [hv] at hfo
            subst hfo
            go_enter Tryf.func11, Tryf.ntmps11
            go_wp2_with fail
            refine (lower14 t _ ht).mono ?_
            rintro e w1 ⟨rfl, hbw⟩
            go_wp2_with fail
            refine (modelValue19 lo hi a n c N _ _ hxs hn (hN.below hbw)).mono ?_
            rintro e w2 ⟨rfl, hb2⟩
            rw [hv]
            go_wp2_with fail
            go_ret3
            exact ⟨rfl, hbw.trans (hb2.mono hbw.size)⟩

end Go.Proofs.Qxb6616116aFmt
