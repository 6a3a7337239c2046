/-
  WALKS: modelList (13).
-/
import Derived.Test.Qxb6616116aWg
import Derived.Deep.CutBlock
import Derived.Deep.DeepCutAuto
namespace Go.Proofs.Qxb6616116a
open Go.RowKit

theorem vok_nil (N : Nat → ByteArray) (n : Nat) : vok N n [] = decide (0 ≤ idxOf N n ⟨#[]⟩) := by
  have h := fold_idx N n ⟨#[]⟩
  have e : lowS ⟨#[]⟩ = ⟨#[]⟩ := bytes_ext (by simp [lowS])
  rw [e] at h
  unfold vok idxOf
  rw [h]
  show (numB [] || _) = _
  have : numB [] = false := rfl
  rw [this]
  cases ff (fun i => decide (N i = ⟨#[]⟩)) n with
  | none => rfl
  | some i => simp

theorem val_int {k : IntKind} {a b : Int} (h : a = b) : Value.int k a = .int k b := by rw [h]

theorem drop_end (t : ByteArray) : t.data.toList.drop t.size = [] := by rw [List.drop_eq_nil_iff, Array.length_toList]; exact Nat.le_refl _

theorem hd_end (t : ByteArray) (c : UInt8) : ¬ hd c (t.data.toList.drop t.size) = true := by rw [drop_end]; simp [hd]

theorem hd_at {t : ByteArray} {p : Nat} (h : p < t.size) (c : UInt8) : hd c (t.data.toList.drop p) = true ↔ (t[p].toNat : Int) = (c.toNat : Int) := by
  have hl : p < t.data.toList.length := by rw [Array.length_toList]; exact h
  rw [List.drop_eq_getElem_cons hl]
  show ((some t[p] : Option UInt8) == some c) = true ↔ _
  rw [beq_iff_eq, Option.some.injEq]
  constructor
  · intro e; rw [e]
  · intro e; exact UInt8.toNat_inj.1 (by omega)

theorem run_nil {l : List UInt8} (h : alLen l = 0) : run l = [] := by unfold run; rw [h]; rfl

section
variable (V : List UInt8 → Bool) (L : List UInt8) (f p : Nat)
theorem ml_0 : ml V L (f + 1) 0 p = (if hd 42 (L.drop p) = true then ml V L f 3 (p + 1) else if V (run (L.drop p)) = true then ml V L f 1 (p + alLen (L.drop p)) else L.length) := rfl
theorem ml_1 : ml V L (f + 1) 1 p = (if hd 45 (L.drop p) = true then ml V L f 2 (p + 1) else if hd 47 (L.drop p) = true then L.length else if hd 44 (L.drop p) = true then ml V L f 0 (p + 1) else p) := rfl
theorem ml_2 : ml V L (f + 1) 2 p = (if V (run (L.drop p)) = true then ml V L f 3 (p + alLen (L.drop p)) else L.length) := rfl
theorem ml_3 : ml V L (f + 1) 3 p = (if hd 47 (L.drop p) = true then ml V L f 4 (p + 1) else if hd 44 (L.drop p) = true then ml V L f 0 (p + 1) else p) := rfl
theorem ml_4 : ml V L (f + 1) 4 p = (if numB (run (L.drop p)) = true then ml V L f 5 (p + alLen (L.drop p)) else L.length) := rfl
theorem ml_5 : ml V L (f + 1) 5 p = (if hd 44 (L.drop p) = true then ml V L f 0 (p + 1) else p) := rfl
end

set_option maxHeartbeats 16000000 in
set_option maxRecDepth 4096 in
theorem modelList13_t (t : ByteArray) (a : Option Addr) (n c : Nat) (N : Nat → ByteArray) (w : World) (ht : t.size ≤ 4194304) (hn : n ≤ 1048576) (hN : Ns w a n N) (hb : vok N n [] = true) :
    Calls Try.prog 13 #[.string t, .slice a n c] w fun e w' =>
      e = .returned (.int .i64 ((listOf (vok N n) t.data.toList : Nat) : Int)) ∧ Below w.heap.size w w' := by
  have htm : t.size ≤ maxLen := by unfold maxLen; omega
  have hnm : n ≤ maxLen := by unfold maxLen; omega
  have hE := vok_nil N n
  generalize hR : listOf (vok N n) t.data.toList = R
  rw [← ml_list, len_eq] at hR
  rw [hb] at hE
  have hge : (0 : Int) ≤ idxOf N n ⟨#[]⟩ := of_decide_eq_true hE.symm
  clear hE
  go_enter Try.func13, Try.ntmps13
  go_wp2_with fail
  refine (index22 ⟨#[]⟩ a n c N _ hnm hN).mono ?_
  rintro e w1 ⟨rfl, rfl⟩
  go_wp2_with fail
  go_loopw [6, 7, 8] (fun sv pv iv wr => ∃ st p s : Nat, st ≤ 5 ∧ p ≤ t.size ∧ s ≤ 3 * t.size + 4 ∧ sv = .int .i64 st ∧ pv = .int .i64 p ∧ iv = .int .i64 s ∧ Below w.heap.size w wr ∧ ml (vok N n) t.data.toList (3 * t.size + 4 - s) st p = R) (fun _ _ iv _ => 3 * t.size + 4 - (intOf iv).toNat)
  case atStart => exact ⟨0, 0, 0, by omega, by omega, by omega, rfl, rfl, rfl, Below.refl _ _, hR⟩
  case round =>
    obtain ⟨st, p, s, hst, hp, hs, rfl, rfl, rfl, hbe, hpre⟩ := hrel
    clear hge hR
    by_cases hlast : s = 3 * t.size + 4
    · have hf : 3 * t.size + 4 - s = 0 := by omega
      rw [hf] at hpre
      have HP : Hid (t.data.toList.length = R) := hpre
      clear hpre
      have i1 : ¬ (s : Int) ≤ 3 * (t.size : Int) + 3 := by omega
      go_wp2_with fail
      go_ret
      exact ⟨ret_int (by rw [← HP.out, len_eq]), hbe⟩
    · obtain ⟨f, hf⟩ : ∃ f, 3 * t.size + 4 - s = f + 1 := ⟨3 * t.size + 3 - s, by omega⟩
      have hf2 : 3 * t.size + 4 - (s + 1) = f := by omega
      rw [hf] at hpre
      have HP : Hid (ml (vok N n) t.data.toList (f + 1) st p = R) := hpre
      have HF : Hid (3 * t.size + 4 - (s + 1) = f) := hf2
      clear hpre hf hf2
      have i1 : (s : Int) ≤ 3 * (t.size : Int) + 3 := by omega
      have hal := alLen_drop t.data.toList p (by rw [len_eq]; exact hp)
      rw [len_eq] at hal
      have hN2 : Ns wr a n N := hN.below hbe
      go_upto_block 2 with fail
      go_cut [9] (fun s9 wx => s9 = .int .i64 ((p : Int) + (alLen (t.data.toList.drop p) : Nat)) ∧ wr = wx)
      case first =>
        go_wp2_with fail
        go_loopw [9] (fun ev wq => ∃ k : Nat, k ≤ t.size ∧ ev = .int .i64 k ∧ wr = wq ∧ p + alLen (t.data.toList.drop p) = k + alLen (t.data.toList.drop k)) (fun ev _ => t.size - (intOf ev).toNat)
        case atStart => exact ⟨p, hp, rfl, rfl, rfl⟩
        case round =>
          obtain ⟨k, hk, rfl, rfl, hpre⟩ := hrel
          have HK : Hid (p + alLen (t.data.toList.drop p) = k + alLen (t.data.toList.drop k)) := hpre
          clear hpre
          by_cases hlt : k < t.size
          · have j1 : (k : Int) < (t.size : Int) := by omega
            cases hc : isAl t[k] with
            | true =>
              have hgo := al_go hlt hc
              go_wp2_with (go_at_call 23; refine (isAlnum23 t[k] _).mono ?_; rintro e w' ⟨rfl, rfl⟩; rw [hc])
              go_roundw
              case rel => exact ⟨k + 1, by omega, by go_num, by trivial, by rw [HK.out, hgo]; omega⟩
              case measure => simp [intOf]; omega
            | false =>
              have hgo := al_stop hlt (by rw [hc]; simp)
              go_wp2_with (go_at_call 23; refine (isAlnum23 t[k] _).mono ?_; rintro e w' ⟨rfl, rfl⟩; rw [hc])
              go_meet
              exact ⟨val_int (by have := HK.out; rw [hgo] at this; omega), rfl⟩
          · obtain rfl : k = t.size := by omega
            go_wp2_with fail
            go_meet
            exact ⟨val_int (by have := HK.out; rw [al_end] at this; omega), rfl⟩
      case rest =>
        obtain ⟨rfl, rfl⟩ := hcut
        have x3 := ext_run_at t p
        have hrn := fun h => run_nil (l := t.data.toList.drop p) h
        generalize hA : alLen (t.data.toList.drop p) = A at *
        have i3 : (p : Int) + (A : Int) ≤ (t.size : Int) := by omega
        have z3 : (t.extract p (p + A)).size ≤ 4194304 := Nat.le_trans (ext_le t _ _) ht
        have z3m : (t.extract p (p + A)).size ≤ maxLen := Nat.le_trans (ext_le t _ _) htm
        by_cases hlt : p < t.size
        · have j1 : (p : Int) < (t.size : Int) := by omega
          have jne : ((p : Int) == (t.size : Int)) = false := beq_false_of_ne (by omega)
          have c42 := hd_at hlt 42
          have c44 := hd_at hlt 44
          have c45 := hd_at hlt 45
          have c47 := hd_at hlt 47
          have H42 : Hid (hd 42 (t.data.toList.drop p) = true ↔ (t[p].toNat : Int) = 42) := c42
          have H44 : Hid (hd 44 (t.data.toList.drop p) = true ↔ (t[p].toNat : Int) = 44) := c44
          have H45 : Hid (hd 45 (t.data.toList.drop p) = true ↔ (t[p].toNat : Int) = 45) := c45
          have H47 : Hid (hd 47 (t.data.toList.drop p) = true ↔ (t[p].toNat : Int) = 47) := c47
          clear c42 c44 c45 c47
          obtain rfl | rfl | rfl | rfl | rfl | rfl : st = 0 ∨ st = 1 ∨ st = 2 ∨ st = 3 ∨ st = 4 ∨ st = 5 := by omega
          · by_cases q42 : hd 42 (t.data.toList.drop p) = true
            · have d42 : ((t[p].toNat : Int) == 42) = true := beq_iff_eq.2 (H42.out.1 q42)
              go_wp2_with fail
              go_roundw
              case rel => exact ⟨3, p + 1, s + 1, by omega, by omega, by omega, by go_num, by go_num, by go_num, hbe, by rw [← HP.out, ml_0, if_pos q42, HF.out]⟩
              case measure => simp [intOf]; omega
            · have d42 : ((t[p].toNat : Int) == 42) = false := beq_false_of_ne fun h => q42 (H42.out.2 h)
              by_cases hA0 : A = 0
              · subst hA0
                have hV : vok N n (run (t.data.toList.drop p)) = true := by rw [hrn rfl]; exact hb
                go_wp2_with fail
                go_roundw
                case rel => exact ⟨1, p + 0, s + 1, by omega, by omega, by omega, by go_num, by go_num, by go_num, hbe, by rw [← HP.out, ml_0, if_neg q42, if_pos hV, hA, HF.out]⟩
                case measure => simp [intOf]; omega
              · have k1 : (0 : Int) < (A : Int) := by omega
                have k2 : (p : Int) < (p : Int) + (A : Int) := by omega
                cases hV : vok N n (run (t.data.toList.drop p)) with
                | true =>
                  go_wp2_with fail
                  refine (listValue24 _ a n c N _ z3 hn hN2).mono ?_
                  rintro e w3 ⟨rfl, hb3⟩
                  have hbe3 : Below w.heap.size w w3 := hbe.trans (hb3.mono hbe.size)
                  rw [x3, hV]
                  go_wp2_with fail
                  go_roundw
                  case rel => exact ⟨1, p + A, s + 1, by omega, by omega, by omega, by go_num, by go_num, by go_num, hbe3, by rw [← HP.out, ml_0, if_neg q42, if_pos hV, hA, HF.out]⟩
                  case measure => simp [intOf]; omega
                | false =>
                  go_wp2_with fail
                  refine (listValue24 _ a n c N _ z3 hn hN2).mono ?_
                  rintro e w3 ⟨rfl, hb3⟩
                  have hbe3 : Below w.heap.size w w3 := hbe.trans (hb3.mono hbe.size)
                  rw [x3, hV]
                  go_wp2_with fail
                  go_ret
                  exact ⟨ret_int (by rw [← HP.out, ml_0, if_neg q42, if_neg (by rw [hV]; simp), len_eq]), hbe3⟩
          · by_cases q45 : hd 45 (t.data.toList.drop p) = true
            · have d45 : ((t[p].toNat : Int) == 45) = true := beq_iff_eq.2 (H45.out.1 q45)
              go_wp2_with fail
              go_roundw
              case rel => exact ⟨2, p + 1, s + 1, by omega, by omega, by omega, by go_num, by go_num, by go_num, hbe, by rw [← HP.out, ml_1, if_pos q45, HF.out]⟩
              case measure => simp [intOf]; omega
            · have d45 : ((t[p].toNat : Int) == 45) = false := beq_false_of_ne fun h => q45 (H45.out.2 h)
              by_cases q47 : hd 47 (t.data.toList.drop p) = true
              · have d47 : ((t[p].toNat : Int) == 47) = true := beq_iff_eq.2 (H47.out.1 q47)
                go_wp2_with fail
                go_ret
                exact ⟨ret_int (by rw [← HP.out, ml_1, if_neg q45, if_pos q47, len_eq]), hbe⟩
              · have d47 : ((t[p].toNat : Int) == 47) = false := beq_false_of_ne fun h => q47 (H47.out.2 h)
                by_cases q44 : hd 44 (t.data.toList.drop p) = true
                · have d44 : ((t[p].toNat : Int) == 44) = true := beq_iff_eq.2 (H44.out.1 q44)
                  go_wp2_with fail
                  go_roundw
                  case rel => exact ⟨0, p + 1, s + 1, by omega, by omega, by omega, by go_num, by go_num, by go_num, hbe, by rw [← HP.out, ml_1, if_neg q45, if_neg q47, if_pos q44, HF.out]⟩
                  case measure => simp [intOf]; omega
                · have d44 : ((t[p].toNat : Int) == 44) = false := beq_false_of_ne fun h => q44 (H44.out.2 h)
                  go_wp2_with fail
                  go_ret
                  exact ⟨ret_int (by rw [← HP.out, ml_1, if_neg q45, if_neg q47, if_neg q44]), hbe⟩
          · by_cases hA0 : A = 0
            · subst hA0
              have hV : vok N n (run (t.data.toList.drop p)) = true := by rw [hrn rfl]; exact hb
              go_wp2_with fail
              go_roundw
              case rel => exact ⟨3, p + 0, s + 1, by omega, by omega, by omega, by go_num, by go_num, by go_num, hbe, by rw [← HP.out, ml_2, if_pos hV, hA, HF.out]⟩
              case measure => simp [intOf]; omega
            · have k1 : (0 : Int) < (A : Int) := by omega
              have k2 : (p : Int) < (p : Int) + (A : Int) := by omega
              cases hV : vok N n (run (t.data.toList.drop p)) with
              | true =>
                go_wp2_with fail
                refine (listValue24 _ a n c N _ z3 hn hN2).mono ?_
                rintro e w3 ⟨rfl, hb3⟩
                have hbe3 : Below w.heap.size w w3 := hbe.trans (hb3.mono hbe.size)
                rw [x3, hV]
                go_wp2_with fail
                go_roundw
                case rel => exact ⟨3, p + A, s + 1, by omega, by omega, by omega, by go_num, by go_num, by go_num, hbe3, by rw [← HP.out, ml_2, if_pos hV, hA, HF.out]⟩
                case measure => simp [intOf]; omega
              | false =>
                go_wp2_with fail
                refine (listValue24 _ a n c N _ z3 hn hN2).mono ?_
                rintro e w3 ⟨rfl, hb3⟩
                have hbe3 : Below w.heap.size w w3 := hbe.trans (hb3.mono hbe.size)
                rw [x3, hV]
                go_wp2_with fail
                go_ret
                exact ⟨ret_int (by rw [← HP.out, ml_2, if_neg (by rw [hV]; simp), len_eq]), hbe3⟩
          · by_cases q47 : hd 47 (t.data.toList.drop p) = true
            · have d47 : ((t[p].toNat : Int) == 47) = true := beq_iff_eq.2 (H47.out.1 q47)
              go_wp2_with fail
              go_roundw
              case rel => exact ⟨4, p + 1, s + 1, by omega, by omega, by omega, by go_num, by go_num, by go_num, hbe, by rw [← HP.out, ml_3, if_pos q47, HF.out]⟩
              case measure => simp [intOf]; omega
            · have d47 : ((t[p].toNat : Int) == 47) = false := beq_false_of_ne fun h => q47 (H47.out.2 h)
              by_cases q44 : hd 44 (t.data.toList.drop p) = true
              · have d44 : ((t[p].toNat : Int) == 44) = true := beq_iff_eq.2 (H44.out.1 q44)
                go_wp2_with fail
                go_roundw
                case rel => exact ⟨0, p + 1, s + 1, by omega, by omega, by omega, by go_num, by go_num, by go_num, hbe, by rw [← HP.out, ml_3, if_neg q47, if_pos q44, HF.out]⟩
                case measure => simp [intOf]; omega
              · have d44 : ((t[p].toNat : Int) == 44) = false := beq_false_of_ne fun h => q44 (H44.out.2 h)
                go_wp2_with fail
                go_ret
                exact ⟨ret_int (by rw [← HP.out, ml_3, if_neg q47, if_neg q44]), hbe⟩
          · by_cases hA0 : A = 0
            · subst hA0
              have hV : ¬ numB (run (t.data.toList.drop p)) = true := by rw [hrn rfl]; exact Bool.false_ne_true
              go_wp2_with fail
              go_ret
              exact ⟨ret_int (by rw [← HP.out, ml_4, if_neg hV, len_eq]), hbe⟩
            · have k1 : (0 : Int) < (A : Int) := by omega
              have k2 : (p : Int) < (p : Int) + (A : Int) := by omega
              cases hV : numB (run (t.data.toList.drop p)) with
              | true =>
                go_wp2_with fail
                refine (digits25 _ _ z3m).mono ?_
                rintro e w3 ⟨rfl, rfl⟩
                rw [x3, hV]
                go_wp2_with fail
                go_roundw
                case rel => exact ⟨5, p + A, s + 1, by omega, by omega, by omega, by go_num, by go_num, by go_num, hbe, by rw [← HP.out, ml_4, if_pos hV, hA, HF.out]⟩
                case measure => simp [intOf]; omega
              | false =>
                go_wp2_with fail
                refine (digits25 _ _ z3m).mono ?_
                rintro e w3 ⟨rfl, rfl⟩
                rw [x3, hV]
                go_wp2_with fail
                go_ret
                exact ⟨ret_int (by rw [← HP.out, ml_4, if_neg (by rw [hV]; simp), len_eq]), hbe⟩
          · by_cases q44 : hd 44 (t.data.toList.drop p) = true
            · have d44 : ((t[p].toNat : Int) == 44) = true := beq_iff_eq.2 (H44.out.1 q44)
              go_wp2_with fail
              go_roundw
              case rel => exact ⟨0, p + 1, s + 1, by omega, by omega, by omega, by go_num, by go_num, by go_num, hbe, by rw [← HP.out, ml_5, if_pos q44, HF.out]⟩
              case measure => simp [intOf]; omega
            · have d44 : ((t[p].toNat : Int) == 44) = false := beq_false_of_ne fun h => q44 (H44.out.2 h)
              go_wp2_with fail
              go_ret
              exact ⟨ret_int (by rw [← HP.out, ml_5, if_neg q44]), hbe⟩
        · obtain rfl : p = t.size := by omega
          obtain rfl : A = 0 := by rw [al_end] at hA; exact hA.symm
          have q42 := hd_end t 42
          have q44 := hd_end t 44
          have q45 := hd_end t 45
          have q47 := hd_end t 47
          obtain rfl | rfl | rfl | rfl | rfl | rfl : st = 0 ∨ st = 1 ∨ st = 2 ∨ st = 3 ∨ st = 4 ∨ st = 5 := by omega
          · have hV : vok N n (run (t.data.toList.drop t.size)) = true := by rw [hrn rfl]; exact hb
            go_wp2_with fail
            go_roundw
            case rel => exact ⟨1, t.size + 0, s + 1, by omega, by omega, by omega, by go_num, by go_num, by go_num, hbe, by rw [← HP.out, ml_0, if_neg q42, if_pos hV, hA, HF.out]⟩
            case measure => simp [intOf]; omega
          · go_wp2_with fail
            go_ret
            exact ⟨ret_int (by rw [← HP.out, ml_1, if_neg q45, if_neg q47, if_neg q44]), hbe⟩
          · have hV : vok N n (run (t.data.toList.drop t.size)) = true := by rw [hrn rfl]; exact hb
            go_wp2_with fail
            go_roundw
            case rel => exact ⟨3, t.size + 0, s + 1, by omega, by omega, by omega, by go_num, by go_num, by go_num, hbe, by rw [← HP.out, ml_2, if_pos hV, hA, HF.out]⟩
            case measure => simp [intOf]; omega
          · go_wp2_with fail
            go_ret
            exact ⟨ret_int (by rw [← HP.out, ml_3, if_neg q47, if_neg q44]), hbe⟩
          · have hV : ¬ numB (run (t.data.toList.drop t.size)) = true := by rw [hrn rfl]; exact Bool.false_ne_true
            go_wp2_with fail
            go_ret
            exact ⟨ret_int (by rw [← HP.out, ml_4, if_neg hV, len_eq]), hbe⟩
          · go_wp2_with fail
            go_ret
            exact ⟨ret_int (by rw [← HP.out, ml_5, if_neg q44]), hbe⟩

end Go.Proofs.Qxb6616116a
