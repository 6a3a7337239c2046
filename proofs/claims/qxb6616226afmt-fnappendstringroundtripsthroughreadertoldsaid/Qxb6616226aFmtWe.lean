/-
  WALKS: AppendString (7).
-/
import Derived.Test.Qxb6616226aFmtWd
import Derived.Shelf.Bin.AppendUvarintArg
import Derived.Lib.AppendStr
import Derived.Deep.QuietTactic
import Derived.BigQuiet
import Derived.WalkSmall
namespace Go.Proofs.Qxb6616226aFmt
open Go.RowKit Go.Extern.Stop Go.Stop Go.Extern

/-- Nothing below B has turned; what the tape holds is not looked at. -/
def Kp (B : Nat) (w w' : World) : Prop := w'.os = w.os ∧ w'.output = w.output ∧ w.heap.size ≤ w'.heap.size ∧ ∀ k, k < B → w'.heap[k]? = w.heap[k]?

theorem Kp.of {B : Nat} {w w' : World} (h : Below B w w') : Kp B w w' := ⟨h.os, h.output, h.size, h.block⟩
theorem Kp.trans {B : Nat} {a b c : World} (h : Kp B a b) (k : Kp B b c) : Kp B a c := ⟨k.1.trans h.1, k.2.1.trans h.2.1, Nat.le_trans h.2.2.1 k.2.2.1, fun i hi => (k.2.2.2 i hi).trans (h.2.2.2 i hi)⟩
theorem Kp.mono {B C : Nat} {a b : World} (h : Kp B a b) (hc : C ≤ B) : Kp C a b := ⟨h.1, h.2.1, h.2.2.1, fun i hi => h.2.2.2 i (Nat.lt_of_lt_of_le hi hc)⟩
theorem Kp.cell {B : Nat} {a b : World} (h : Kp B a b) {p : Addr} (hp : p.block < B) : b.cell? p = a.cell? p := World.cell?_of_block (h.2.2.2 p.block hp)

theorem Bs.kp {w w' : World} {a : Option Addr} {l : List UInt8} (h : Bs w a l) (hb : Kp w.heap.size w w') : Bs w' a l := fun j hj => by
  obtain ⟨b, off, ha, hlt, hc⟩ := h j hj
  exact ⟨b, off, ha, Nat.lt_of_lt_of_le hlt hb.2.2.1, by rw [hb.cell (p := ⟨b, off + j, none⟩) hlt]; exact hc⟩

theorem Kp.of_kept {W w : World} {may : MemPlace → Prop} (h : W.keptBut w may) (hno : ∀ p, ¬ may p) (hsz : W.heap.size ≤ w.heap.size) : Kp W.heap.size W w := by
  refine ⟨h.1, h.2.1, hsz, fun k hk => ?_⟩
  have h3 := h.2.2 k hk
  cases h1 : W.heap[k]? with
  | none => rw [Array.getElem?_eq_none_iff] at h1; omega
  | some o =>
    cases h2 : w.heap[k]? with
    | none => rw [Array.getElem?_eq_none_iff] at h2; omega
    | some o' =>
      rw [h1, h2] at h3
      cases o <;> cases o' <;> simp only [] at h3 <;> first
        | (obtain ⟨rfl, rfl, hs, hj⟩ := h3
           congr 2
           exact Array.ext_getElem? fun j => hj j (hno _))
        | (rcases h3 with h3 | ⟨rfl, rfl⟩
           · exact absurd h3 (hno _)
           · rfl)
        | (rw [h3])
        | skip

theorem byteCells_eq (l : List UInt8) : Lib.byteCells l = bcs l := rfl
theorem strCells_eq (s : ByteArray) : Lib.strCells s = bcs s.data.toList := rfl
theorem bcs_append (x y : List UInt8) : bcs (x ++ y) = bcs x ++ bcs y := by simp [bcs]

theorem bcs_at {l : List UInt8} {j : Nat} (h : j < l.length) : (bcs l)[j]? = some (.int .u8 (l[j].toNat)) := by
  unfold bcs
  rw [List.getElem?_map, List.getElem?_eq_getElem h]
  rfl

theorem came_of {w : World} {a : Option Addr} {n : Nat} {l : List UInt8} (hl : l.length = n) (hB : Bs w a l) : ∃ b off, Came w 1 a b off n n (bcs l) := by
  by_cases h0 : 0 < l.length
  · obtain ⟨b, off, rfl, hlt, hc⟩ := hB.some h0
    refine ⟨b, off, Nat.le_refl _, fun _ => rfl, fun _ => hlt, by rw [bcs_length]; omega, fun j u hu => ?_, fun j hj => by omega⟩
    obtain ⟨hj, rfl⟩ := bcs_get hu
    exact hc j hj
  · refine ⟨0, 0, Nat.le_refl _, fun h => by omega, fun h => by omega, by rw [bcs_length]; omega, fun j u hu => ?_, fun j hj => by omega⟩
    obtain ⟨hj, _⟩ := bcs_get hu
    omega

theorem own_bs {w : World} {B n : Nat} {v : Value} {l : List UInt8} (h : w.ownsRow B 5 1 v n (bcs l)) (hn : 0 < n) : ∃ g cap, v = .slice (some ⟨g, 0, none⟩) n cap ∧ B ≤ g ∧ n ≤ cap ∧ cap ≤ maxLen ∧ Bs w (some ⟨g, 0, none⟩) l := by
  obtain ⟨hlen, h⟩ := h
  rcases h with ⟨_, h0⟩ | ⟨g, cap, cur, rfl, hb, hg, hcap, hmax, hsz, htk⟩
  · omega
  · refine ⟨g, cap, rfl, hb, hcap, hmax, fun j hj => ⟨g, 0, rfl, (Array.getElem?_eq_some_iff.1 hg).1, ?_⟩⟩
    have hj2 : j < n := by rw [bcs_length] at hlen; omega
    have h1 := bcs_at hj
    rw [← htk, List.getElem?_take, if_pos (by omega), Array.getElem?_toList] at h1
    simp [World.cell?, hg, h1]

set_option maxHeartbeats 2000000 in
theorem append7 (a : Option Addr) (n : Nat) (l : List UInt8) (s : ByteArray) (w : World) (hn : n ≤ 1048576) (hs : s.size ≤ 1048576) (hl : l.length = n) (hB : Bs w a l) :
    Calls Tryf.prog 7 #[.slice a n n, .string s] w fun e w' => ∃ v', e = .returned v' ∧ w'.ownsRow w.heap.size 5 1 v' (n + (Lib.uvarint s.size).length + s.size) (bcs (l ++ Lib.uvarint s.size ++ s.data.toList)) ∧ Kp w.heap.size w w' := by
  obtain ⟨b, off, hc⟩ := came_of hl hB
  have hup := Lib.uvarint_pos s.size
  have hul := Lib.uvarint_length64 (x := s.size) (by omega)
  obtain ⟨i0, hi, hz0, hz1, hz2⟩ := info_parts Tryf.info5
  go_enter Tryf.func7, Tryf.ntmps7
  go_wp2_with fail
  refine (Any.binary_AppendUvarint_arg Tryf.laysVar47 w a b off n n (bcs l) hc s.size (by omega) (.slice a n n) 0 [] _ (Onto.start hc) (by omega)).mono ?_
  rintro e w1 ⟨v1, rfl, honto⟩
  have hkp : Kp w.heap.size w w1 := Kp.of_kept honto.kept (fun p ⟨j, _, h2, _⟩ => by omega) honto.kept.size
  have hown : w1.ownsRow w.heap.size 5 1 v1 (n + (Lib.uvarint s.size).length) (bcs (l ++ Lib.uvarint s.size)) := by
    rcases honto.val with ⟨h1, _⟩ | ⟨_, h2⟩
    · omega
    · rw [bcs_append]
      have h3 : w1.ownsRow w.heap.size 5 1 v1 (n + (0 + (Lib.uvarint s.size).length)) (bcs l ++ ([] ++ Lib.byteCells (Lib.uvarint s.size))) := h2
      rw [Nat.zero_add, List.nil_append, byteCells_eq] at h3
      exact h3
  clear honto
  go_wp2_with (at_builtin; refine Lib.wpList_append_own_string _ rfl _ _ 22 9 rfl w.heap.size 5 i0 Tryf.underlying22 Tryf.underlying9 hi hz0 hz1 hz2 _ _ _ rfl hown s rfl ?c3 ?c4 ?c5 ?_)
  case c3 => unfold maxLen; omega
  case c4 => omega
  case c5 => exact hkp.2.2.1
  intro v2 w2 hown2 hgrow _
  have hkp2 : Kp w.heap.size w w2 := hkp.trans ⟨hgrow.os, hgrow.output, hgrow.size, fun k hk => hgrow.block k (Nat.lt_of_lt_of_le hk hkp.2.2.1) (fun e => by have := (hown.lt k e.symm).1; omega)⟩
  go_wp2_with fail
  go_ret
  refine ⟨v2, rfl, ?_, hkp2⟩
  rw [bcs_append]
  exact hown2

end Go.Proofs.Qxb6616226aFmt
