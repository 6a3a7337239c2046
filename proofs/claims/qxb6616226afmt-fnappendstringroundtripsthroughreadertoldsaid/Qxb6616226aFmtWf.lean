/-
  THE WALK of FnAppendStringRoundTripsThroughReader (3).
-/
import Derived.Test.Qxb6616226aFmtWe
namespace Go.Proofs.Qxb6616226aFmt
open Go.RowKit Go.Extern.Stop Go.Stop Go.Extern

theorem kp_drewN {B : Nat} {a w : World} (h : Kp B a w) (q : Nat) : Kp B a (w.drewN q) := h

theorem bs_at {w : World} {g o j : Nat} {l : List UInt8} (h : Bs w (some ⟨g, o, none⟩) l) (hj : j < l.length) : w.cell? ⟨g, o + j, none⟩ = some (.int .u8 (l[j].toNat)) := by
  obtain ⟨b, off, e, _, hc⟩ := h j hj
  cases e
  exact hc

theorem bs_part {w : World} {g : Nat} {x y z : List UInt8} (h : Bs w (some ⟨g, 0, none⟩) (x ++ y ++ z)) : Bs w (some ⟨g, x.length, none⟩) y := fun j hj => by
  have hj2 : x.length + j < (x ++ y ++ z).length := by simp; omega
  obtain ⟨b, off, e, hb, hc⟩ := h (x.length + j) hj2
  cases e
  refine ⟨g, x.length, rfl, hb, ?_⟩
  rw [Nat.zero_add] at hc
  rw [hc, List.getElem_append_left (by simp; omega), List.getElem_append_right (by omega)]
  simp

theorem bs_first {w : World} {g i : Nat} {x y z : List UInt8} (h : Bs w (some ⟨g, 0, none⟩) (x ++ y ++ z)) (hi : i < x.length) : w.cell? ⟨g, i, none⟩ = some (.int .u8 (x[i].toNat)) := by
  have hj2 : i < (x ++ y ++ z).length := by simp; omega
  have hc := bs_at h hj2
  rw [Nat.zero_add, List.getElem_append_left (by simp; omega), List.getElem_append_left hi] at hc
  exact hc

theorem bs_last {w : World} {g i : Nat} {x y : List UInt8} {s : ByteArray} (h : Bs w (some ⟨g, 0, none⟩) (x ++ y ++ s.data.toList)) (hi : i < s.size) : w.cell? ⟨g, x.length + y.length + i, none⟩ = some (.int .u8 (s[i].toNat)) := by
  have hlen : s.data.toList.length = s.size := Array.length_toList
  have hj2 : x.length + y.length + i < (x ++ y ++ s.data.toList).length := by simp [hlen]; omega
  have hc := bs_at h hj2
  rw [Nat.zero_add, List.getElem_append_right (by simp)] at hc
  rw [hc]
  simp
  rfl

set_option maxHeartbeats 8000000 in
set_option maxRecDepth 20000 in
theorem law3 (a : Option Addr) (n c : Nat) (l : List UInt8) (s : ByteArray) (w : World) (hn : n ≤ maxLen) (hs : s.size ≤ maxLen) (hl : l.length = n) (hB : Bs w a l) (ha : a = none → n = 0 ∧ c = 0) :
    Calls Tryf.prog 3 #[.slice a n c, .string s] w fun e w' => e = .returned (.bool true) ∧ Kp w.heap.size w w' := by
  have hn' := hn
  have hs' := hs
  unfold maxLen at hn' hs'
  by_cases hbig : (1048576 : Int) < (n : Int)
  · go_enter Tryf.func3, Tryf.ntmps3
    go_wp2_with fail
    refine (bytes5 a n c s _ hn hs).mono ?_
    rintro e w' ⟨⟨r, rfl⟩, rfl⟩
    cases r <;> (go_wp2_with fail; go_ret; exact ⟨rfl, .of (Below.refl _ _)⟩)
  have hbig2 : decide ((1048576 : Int) < (n : Int)) = false := decide_eq_false hbig
  by_cases hsb : (1048576 : Int) - (n : Int) < (s.size : Int)
  · go_enter Tryf.func3, Tryf.ntmps3
    go_wp2_with fail
    refine (bytes5 a n c s _ hn hs).mono ?_
    rintro e w' ⟨⟨r, rfl⟩, rfl⟩
    cases r <;> (go_wp2_with fail; go_ret; exact ⟨rfl, .of (Below.refl _ _)⟩)
  have hsb2 : decide ((1048576 : Int) - (n : Int) < (s.size : Int)) = false := decide_eq_false hsb
  have hn4 : n ≤ 4194304 := by omega
  have hn1 : n ≤ 1048576 := by omega
  have hs1 : s.size ≤ 1048576 := by omega
  clear hn' hs'
  go_enter Tryf.func3, Tryf.ntmps3
  go_wp2_with fail
  refine (bytes5 a n c s _ hn hs).mono ?_
  rintro e w' ⟨⟨r, rfl⟩, rfl⟩
  cases r
  · go_wp2_with fail
    go_ret
    exact ⟨rfl, .of (Below.refl _ _)⟩
  go_wp2_with fail
  refine (copy6 a n c l _ hn4 hl hB ha).mono ?_
  intro e w1 ho
  obtain ⟨a1, rfl, ha1, hb1, hB1⟩ := ho.bs hl
  clear ho
  go_wp2_with fail
  refine (copy6 a1 n n l _ hn4 hl hB1 ha1).mono ?_
  intro e w2 ho
  obtain ⟨a2, rfl, ha2, hb2, hB2⟩ := ho.bs hl
  clear ho
  have hB12 := hB1.below hb2
  have hbw2 : Below w.heap.size w w2 := hb1.trans (hb2.mono hb1.size)
  clear hb1 hb2 hB1 ha2 ha1
  go_wp2_with fail
  refine (append7 a1 n l s _ hn1 hs1 hl hB12).mono ?_
  rintro e w3 ⟨v3, rfl, hown, hkp⟩
  have hup := Lib.uvarint_pos s.size
  have hul := Lib.uvarint_length64 (x := s.size) (by omega)
  obtain ⟨g, cap, rfl, hgB, hcap, hmax, hB3⟩ := own_bs hown (by omega)
  have hB23 := hB2.kp hkp
  have hkw3 : Kp w.heap.size w w3 := (Kp.of hbw2).trans (hkp.mono hbw2.size)
  have hdec := dec_uvarint s.size (by omega)
  have hmid := bs_part hB3
  have hx64 : s.size < 18446744073709551616 := by omega
  clear hown hB2 hB12 hkp hbw2
  go_wp2_with fail
  refine (len8 s.size hx64 _).mono ?_
  rintro e w' ⟨rfl, rfl⟩
  have HF1 : Hid (∀ i (hi : i < l.length), w3.cell? ⟨g, i, none⟩ = some (.int .u8 (l[i].toNat))) := fun i hi => bs_first hB3 hi
  have HF2 : Hid (∀ i (hi : i < s.size), w3.cell? ⟨g, l.length + (Lib.uvarint s.size).length + i, none⟩ = some (.int .u8 (s[i].toNat))) := fun i hi => bs_last hB3 hi
  have HDEC : Hid (Lib.uvarintDec (Lib.uvarint s.size) = (s.size, ((Lib.uvarint s.size).length : Int))) := hdec
  clear hdec hB3
  generalize hm : (Lib.uvarint s.size).length = m at *
  go_wp2_with fail
  go_loopw [8] (fun vi wr => ∃ i q : Nat, i ≤ n ∧ vi = .int .i64 i ∧ wr = w3.drewN q) (fun vi _ => n - (intOf vi).toNat)
  case atStart => exact ⟨0, 0, Nat.zero_le _, rfl, rfl⟩
  case round =>
    obtain ⟨i, q, hi, rfl, rfl⟩ := hrel
    by_cases hlt : i < n
    · have j1 : (i : Int) < (n : Int) := by omega
      have j2 : (i : Int) < (n : Int) + (m : Int) + (s.size : Int) := by omega
      have c1 := HF1.out i (by omega)
      obtain ⟨b2, o2, ea2, hlt2, c2⟩ := hB23 i (by omega)
      subst ea2
      go_wp2_with fail
      go_quiet (fail)
      go_wp2_with fail
      go_roundw
      case rel => exact ⟨i + 1, q + nq, by omega, by go_num, rfl⟩
      case measure => simp [intOf]; omega
    · have j1 : ¬ (i : Int) < (n : Int) := by omega
      have j2 : decide ((i : Int) < (n : Int)) = false := decide_eq_false j1
      go_wp2_with fail
      go_loopw [9] (fun vi wr => ∃ k q : Nat, k ≤ s.size ∧ vi = .int .i64 k ∧ wr = w3.drewN q) (fun vi _ => s.size - (intOf vi).toNat)
      case atStart => exact ⟨0, q, Nat.zero_le _, rfl, rfl⟩
      case round =>
        obtain ⟨k, q2, hk, rfl, rfl⟩ := hrel
        by_cases hlt : k < s.size
        · have i1 : (k : Int) < (s.size : Int) := by omega
          have i2 : (n : Int) + (m : Int) + (k : Int) < (n : Int) + (m : Int) + (s.size : Int) := by omega
          have i3 : IntKind.i64.wrap ((n : Int) + (m : Int)) = (n : Int) + (m : Int) := by rw [IntKind.wrap_i64]; omega
          have i4 : IntKind.i64.wrap ((n : Int) + (m : Int) + (k : Int)) = (n : Int) + (m : Int) + (k : Int) := by rw [IntKind.wrap_i64]; omega
          have i5 : (0 : Int) ≤ (n : Int) + (m : Int) + (k : Int) := by omega
          have c3 := HF2.out k hlt
          rw [hl] at c3
          go_wp2_with fail
          go_quiet (fail)
          go_wp2_with fail
          go_roundw
          case rel => exact ⟨k + 1, q2 + nq, by omega, by go_num, rfl⟩
          case measure => simp [intOf]; omega
        · have i1 : ¬ (k : Int) < (s.size : Int) := by omega
          have i2 : decide ((k : Int) < (s.size : Int)) = false := decide_eq_false i1
          have i3 : (n : Int) ≤ (n : Int) + (m : Int) := by omega
          have i4 : (n : Int) + (m : Int) ≤ (cap : Int) := by omega
          rw [hl] at hmid
          go_wp2_with fail
          refine (copy6 (some ⟨g, n, none⟩) m (cap - n) (Lib.uvarint s.size) _ (by omega) hm (by exact hmid) (fun h => by cases h)).mono ?_
          intro e w4 ho
          obtain ⟨a4, rfl, _, hb4, hB4⟩ := ho.bs hm
          clear ho
          obtain ⟨b4, o4, rfl, hlt4, _⟩ := hB4.some (by omega)
          have hkw4 : Kp w.heap.size w w4 := (kp_drewN hkw3 q2).trans ((Kp.of hb4).mono hkw3.2.2.1)
          have hB5 := fun o => hB4.below ((Below.refl w4.heap.size w4).alloc (Nat.le_refl _) o)
          clear hb4 hmid hB23
          go_wp2_with fail
          refine (new9 (some ⟨b4, o4, none⟩) m m _).mono ?_
          rintro e w5 ⟨rfl, rfl⟩
          go_wp2_with fail
          refine (uvarint10_ok w4.heap.size b4 o4 m (Lib.uvarint s.size) s.size m _ hm (hB5 _) HDEC.out (by omega) (Nat.le_refl _) ?_ ?_ ?_).mono ?_
          · rw [World.cell?_alloc_at (hn := rfl)]; rfl
          · rw [World.cell?_alloc_at (hn := rfl)]; rfl
          · rw [World.frozen?_alloc_at (hn := rfl)]
          rintro e w6 ⟨rfl, a5, c5, rfl⟩
          rw [Nat.sub_self]
          go_wp2_with fail
          refine (end11_none w4.heap.size a5 c5 _ ?_ ?_).mono ?_
          · rw [World.cell?_alloc_at (hn := rfl)]; rfl
          · rw [World.cell?_alloc_at (hn := rfl)]; rfl
          rintro e w7 ⟨rfl, rfl⟩
          go_wp2_with fail
          go_ret
          exact ⟨rfl, hkw4.trans ((Kp.of ((Below.refl w4.heap.size w4).alloc (Nat.le_refl _) _)).mono hkw4.2.2.1)⟩

end Go.Proofs.Qxb6616226aFmt
