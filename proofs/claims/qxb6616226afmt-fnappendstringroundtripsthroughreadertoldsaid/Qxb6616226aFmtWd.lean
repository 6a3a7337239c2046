/-
  THE WALK of FnEndAfterOneUvarintTellsExactFit (4).
-/
import Derived.Test.Qxb6616226aFmtWc
namespace Go.Proofs.Qxb6616226aFmt
open Go.RowKit Go.Extern.Stop Go.Stop Go.Extern

set_option maxHeartbeats 4000000 in
theorem law4 (F : Interp) (a : Option Addr) (n c : Nat) (l : List UInt8) (err : Value) (w : World) (hF : F.answers w.tape) (hn : n ≤ maxLen) (hl : l.length = n) (hB : Bs w a l) (ha : a = none → n = 0 ∧ c = 0) (hg : w.cell? ⟨0, 0, none⟩ = some (.iface 49 err)) (h0 : 0 < w.heap.size) :
    Calls Tryf.prog 4 #[.slice a n c] w fun e w' => e = .returned (.bool true) ∧ Below w.heap.size w w' := by
  by_cases hbig : (1048576 : Int) < (n : Int)
  · go_enter Tryf.func4, Tryf.ntmps4
    go_wp2_with fail
    refine (bytes12 a n c _ hn).mono ?_
    rintro e w' ⟨⟨r, rfl⟩, rfl⟩
    cases r
    · go_wp2_with fail
      go_ret
      exact ⟨rfl, Below.refl _ _⟩
    · go_wp2_with fail
      go_ret
      exact ⟨rfl, Below.refl _ _⟩
  have hbig2 : decide ((1048576 : Int) < (n : Int)) = false := decide_eq_false hbig
  have hn4 : n ≤ 4194304 := by omega
  go_enter Tryf.func4, Tryf.ntmps4
  go_wp2_with fail
  refine (bytes12 a n c _ hn).mono ?_
  rintro e w' ⟨⟨r, rfl⟩, rfl⟩
  cases r
  · go_wp2_with fail
    go_ret
    exact ⟨rfl, Below.refl _ _⟩
  go_wp2_with fail
  refine (copy6 a n c l _ hn4 hl hB ha).mono ?_
  intro e w1 ho
  obtain ⟨a1, rfl, ha1, hb1, hB1⟩ := ho.bs hl
  clear ho
  go_wp2_with fail
  refine (copy6 a1 n n l _ hn4 hl hB1 ha1).mono ?_
  intro e w2 ho
  obtain ⟨a2, rfl, ha2, hb2, hB2⟩ := ho.bs hl
  clear ho
  have hB12 := hB1.below hb2
  have hbw2 : Below w.heap.size w w2 := hb1.trans (hb2.mono hb1.size)
  clear hb1 hb2 hB1 ha2
  go_wp2_with fail
  refine (first13 a2 n n l _ hn4 hl hB2).mono ?_
  rintro e w' ⟨rfl, rfl⟩
  have hN3 := fun o => hB12.below ((Below.refl w2.heap.size w2).alloc (Nat.le_refl _) o)
  have hbw3 := fun o => hbw2.alloc hbw2.size o
  have hle := dec_le l
  have h02 : 0 < w2.heap.size := Nat.lt_of_lt_of_le h0 hbw2.size
  have hg2 : w2.cell? ⟨0, 0, none⟩ = some (.iface 49 err) := by rw [hbw2.cell (p := ⟨0, 0, none⟩) h0]; exact hg
  by_cases hK : (Lib.uvarintDec l).2 ≤ 0
  · rw [firstV_none hK]
    go_wp2_with fail
    refine (new9 a1 n n _).mono ?_
    rintro e w3 ⟨rfl, rfl⟩
    go_wp2_with fail
    refine (uvarint10_fail w2.heap.size a1 n l err _ hl (hN3 _) hK ?_ ?_ ?_ ?_ ?_).mono ?_
    · rw [World.cell?_alloc_at (hn := rfl)]; rfl
    · rw [World.cell?_alloc_at (hn := rfl)]; rfl
    · rw [World.frozen?_alloc_at (hn := rfl)]
    · rw [World.frozen?_alloc_at (hn := rfl)]
    · rw [World.cell?_alloc_lt _ _ _ (by exact h02)]; exact hg2
    rintro e w4 ⟨rfl, rfl⟩
    go_wp2_with fail
    refine (end11_fail w2.heap.size err _ ?_).mono ?_
    · rw [World.cell?_alloc_at (hn := rfl)]; rfl
    rintro e w5 ⟨rfl, rfl⟩
    go_wp2_with fail
    go_ret
    exact ⟨rfl, hbw3 _⟩
  · obtain ⟨k, hk⟩ : ∃ k : Nat, (Lib.uvarintDec l).2 = (k : Int) := ⟨(Lib.uvarintDec l).2.toNat, by omega⟩
    have hd : Lib.uvarintDec l = ((Lib.uvarintDec l).1, (k : Int)) := by rw [← hk]
    have hkp : 0 < k := by omega
    have hkn : k ≤ n := by omega
    rw [firstV_some hd hkp]
    obtain ⟨b1, o1, rfl, hlt1, _⟩ := hB12.some (by omega)
    generalize (Lib.uvarintDec l).1 = v at *
    go_wp2_with fail
    refine (new9 (some ⟨b1, o1, none⟩) n n _).mono ?_
    rintro e w3 ⟨rfl, rfl⟩
    go_wp2_with fail
    refine (uvarint10_ok w2.heap.size b1 o1 n l v k _ hl (hN3 _) hd hkp hkn ?_ ?_ ?_).mono ?_
    · rw [World.cell?_alloc_at (hn := rfl)]; rfl
    · rw [World.cell?_alloc_at (hn := rfl)]; rfl
    · rw [World.frozen?_alloc_at (hn := rfl)]
    rintro e w4 ⟨rfl, a5, c5, rfl⟩
    by_cases hnk : n = k
    · subst hnk
      rw [Nat.sub_self]
      go_wp2_with fail
      refine (end11_none w2.heap.size a5 c5 _ ?_ ?_).mono ?_
      · rw [World.cell?_alloc_at (hn := rfl)]; rfl
      · rw [World.cell?_alloc_at (hn := rfl)]; rfl
      rintro e w5 ⟨rfl, rfl⟩
      go_wp2_with fail
      go_ret
      exact ⟨rfl, hbw3 _⟩
    · have q1 : ((n : Int) == (k : Int)) = false := beq_false_of_ne (by omega)
      go_wp2_with fail
      refine (end11_left F w2.heap.size a5 (n - k) c5 _ (by show F.answers w2.tape; rw [hbw2.tape]; exact hF) (by omega) (by omega) ?_ ?_).mono ?_
      · rw [World.cell?_alloc_at (hn := rfl)]; rfl
      · rw [World.cell?_alloc_at (hn := rfl)]; rfl
      rintro e w5 ⟨⟨p, rfl⟩, hb5⟩
      go_wp2_with fail
      go_ret
      exact ⟨rfl, (hbw3 _).trans (hb5.mono (by have := hbw2.size; simp; omega))⟩

end Go.Proofs.Qxb6616226aFmt
