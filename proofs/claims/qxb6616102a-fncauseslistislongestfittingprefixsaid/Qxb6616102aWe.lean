/-
  WALKS: (*Causes).Add (7).
-/
import Derived.Test.Qxb6616102aWd
import Derived.Deep.AppendLies
import Derived.Deep.RegionLaw
namespace Go.Proofs.Qxb6616102a
open Go.RowKit

/-- The first k causes, cell by cell. -/
def cellsX (X : Nat → Cz) : Nat → List Value
  | 0 => []
  | k + 1 => cellsX X k ++ [.string (X k).t, .string (X k).m, .string (X k).f]

/-- What a *Causes at block cb holds in w when the first s causes have been added to it: k are listed. Below cb all is as in w0. -/
structure Has (w0 w : World) (cb : Nat) (X : Nat → Cz) (s k : Nat) (v : Value) : Prop where
  below : Below cb w0 w
  lt : cb < w.heap.size
  c0 : w.cell? ⟨cb, 0, none⟩ = some v
  c1 : w.cell? ⟨cb, 1, none⟩ = some (.int .i64 (S X k : Nat))
  c2 : w.cell? ⟨cb, 2, none⟩ = some (.int .i64 ((s - k : Nat) : Int))
  fz : ∀ j, w.frozen? ⟨cb, j, none⟩ = false
  own : w.ownsRow (cb + 1) 37 3 v k (cellsX X k)
  fit : IsFit X s k

theorem Has.alloc {w0 w : World} {cb : Nat} {X : Nat → Cz} {s k : Nat} {v : Value} (h : Has w0 w cb X s k v) (o : Obj) : Has w0 (w.alloc o) cb X s k v where
  below := h.below.alloc (Nat.le_of_lt h.lt) o
  lt := by have := h.lt; simp; omega
  c0 := by rw [World.cell?_alloc_lt _ _ _ (by exact h.lt)]; exact h.c0
  c1 := by rw [World.cell?_alloc_lt _ _ _ (by exact h.lt)]; exact h.c1
  c2 := by rw [World.cell?_alloc_lt _ _ _ (by exact h.lt)]; exact h.c2
  fz := fun j => by rw [World.frozen?_alloc_old _ _ _ (Nat.ne_of_lt h.lt)]; exact h.fz j
  own := h.own.alloc o
  fit := h.fit

theorem Has.left {w0 w : World} {cb : Nat} {X : Nat → Cz} {s k : Nat} {v : Value} (h : Has w0 w cb X s k v) (hf : IsFit X (s + 1) k) : Has w0 (w.setCell ⟨cb, 2, none⟩ (.int .i64 (((s - k : Nat) : Int) + 1))) cb X (s + 1) k v where
  below := h.below.setCell (Nat.le_refl _) _
  lt := by have := h.lt; simpa [World.setCell] using this
  c0 := by rw [cell_other _ _ (by simp)]; exact h.c0
  c1 := by rw [cell_other _ _ (by simp)]; exact h.c1
  c2 := by
    rw [World.cell?_setCell_same _ _ _ h.c2]
    have := h.fit.le
    rw [show ((s - k : Nat) : Int) + 1 = ((s + 1 - k : Nat) : Int) by omega]
  fz := fun j => by rw [World.frozen?_setCell]; exact h.fz j
  own := ownsRow_setCell_below h.own (Nat.lt_succ_self _) _
  fit := hf

theorem Has.first {w0 w : World} {cb : Nat} {X : Nat → Cz} {k : Nat} {v : Value} (h : Has w0 w cb X k k v) (hf : IsFit X (k + 1) k) : Has w0 (w.setCell ⟨cb, 2, none⟩ (.int .i64 1)) cb X (k + 1) k v := by
  have := h.left hf
  simpa using this

theorem Has.drew {w0 w : World} {cb : Nat} {X : Nat → Cz} {s k : Nat} {v : Value} (h : Has w0 w cb X s k v) : Has w0 w.drew cb X s k v :=
  ⟨h.below.drew, h.lt, h.c0, h.c1, h.c2, h.fz, h.own, h.fit⟩

theorem heap3 (w : World) (o1 o2 o3 : Obj) : (((w.alloc o1).alloc o2).alloc o3).drew.heap[w.heap.size + 1 + 1]? = some o3 := by
  have h := heap_alloc_new ((w.alloc o1).alloc o2) o3
  show (((w.alloc o1).alloc o2).alloc o3).heap[w.heap.size + 1 + 1]? = some o3
  simpa using h

/-- Behind the append, ahead of the two stores. -/
structure Mid (w0 w1 : World) (cb : Nat) (X : Nat → Cz) (k : Nat) (v v1 : Value) : Prop where
  below : Below cb w0 w1
  lt : cb < w1.heap.size
  c0 : w1.cell? ⟨cb, 0, none⟩ = some v
  c1 : w1.cell? ⟨cb, 1, none⟩ = some (.int .i64 (S X k : Nat))
  c2 : w1.cell? ⟨cb, 2, none⟩ = some (.int .i64 0)
  fz : ∀ j, w1.frozen? ⟨cb, j, none⟩ = false
  own : w1.ownsRow (cb + 1) 37 3 v1 (k + 1) (cellsX X (k + 1))

theorem Has.mid {w0 w w1 : World} {cb : Nat} {X : Nat → Cz} {k : Nat} {v v1 : Value} (h : Has w0 w cb X k k v) (hown : w1.ownsRow (cb + 1) 37 3 v1 (k + 1) (cellsX X k ++ [.string (X k).t, .string (X k).m, .string (X k).f]))
    (hg : w.grownBy w1 v.ownBlock) : Mid w0 w1 cb X k v v1 := by
  have hne : some cb ≠ v.ownBlock := fun e => by have := (h.own.lt cb e.symm).1; omega
  refine ⟨h.below.grown hg (Nat.le_of_lt h.lt) fun g e => by have := (h.own.lt g e).1; omega, Nat.lt_of_lt_of_le h.lt hg.size, ?_, ?_, ?_, ?_, hown⟩
  · rw [hg.cell_far ⟨cb, 0, none⟩ h.lt hne]; exact h.c0
  · rw [hg.cell_far ⟨cb, 1, none⟩ h.lt hne]; exact h.c1
  · rw [hg.cell_far ⟨cb, 2, none⟩ h.lt hne]; simpa using h.c2
  · intro j; rw [hg.frozen_far ⟨cb, j, none⟩ h.lt hne]; exact h.fz j

theorem Mid.take {w0 w1 : World} {cb : Nat} {X : Nat → Cz} {k : Nat} {v v1 : Value} (h : Mid w0 w1 cb X k v v1) (hf : S X (k + 1) ≤ 65536) :
    Has w0 ((w1.setCell ⟨cb, 0, none⟩ v1).setCell ⟨cb, 1, none⟩ (.int .i64 ((S X k : Nat) + (sz (X k) : Nat) : Int))) cb X (k + 1) (k + 1) v1 where
  below := (h.below.setCell (Nat.le_refl _) _).setCell (Nat.le_refl _) _
  lt := by have := h.lt; simpa [World.setCell] using this
  c0 := by rw [cell_other _ _ (by simp)]; exact World.cell?_setCell_same _ _ _ h.c0
  c1 := by
    rw [World.cell?_setCell_same _ _ _ (u := .int .i64 (S X k : Nat)) (by rw [cell_other _ _ (by simp)]; exact h.c1), S_succ]
    simp
  c2 := by rw [cell_other _ _ (by simp), cell_other _ _ (by simp), h.c2]; simp
  fz := fun j => by rw [World.frozen?_setCell, World.frozen?_setCell]; exact h.fz j
  own := ownsRow_setCell_below (ownsRow_setCell_below h.own (Nat.lt_succ_self _) _) (Nat.lt_succ_self _) _
  fit := IsFit.take hf

set_option maxHeartbeats 1000000 in
theorem add7 (cb : Nat) (a : Option Addr) (n c : Nat) (X : Nat → Cz) (s k : Nat) (v : Value) (w : World) (hn : s + n ≤ 65536) (ht : tot X (s + n) ≤ 1048576)
    (hX : Lies w a n (fun i => X (s + i))) (hcb : ∀ b off, a = some ⟨b, off, none⟩ → b < cb) (hH : Has w w cb X s k v) :
    Calls Try.prog 7 #[.pointer (some ⟨cb, 0, none⟩), .slice a n c] w fun e w' => e = .returned (.tuple #[]) ∧ ∃ k' v', Has w w' cb X (s + n) k' v' := by
  go_enter Try.func7, Try.ntmps7
  go_wp2
  go_loopw [9] (fun i wr => ∃ (j k : Nat) (v : Value), j ≤ n ∧ i = .int .i64 j ∧ Has w wr cb X (s + j) k v) (fun i _ => n - (intOf i).toNat)
  case atStart => exact ⟨0, k, v, Nat.zero_le _, rfl, hH⟩
  case round =>
    clear hH k v
    obtain ⟨j, k, v, hj, rfl, hH⟩ := hrel
    by_cases hlt : j < n
    · obtain ⟨b, off, rfl, hb, c0, c1, c2, l0, l1, l2⟩ := hX j hlt
      have hbc := hcb b off rfl
      rw [← hH.below.cell (p := ⟨b, off + j * 3, none⟩) hbc] at c0
      rw [← hH.below.cell (p := ⟨b, off + j * 3 + 1, none⟩) hbc] at c1
      rw [← hH.below.cell (p := ⟨b, off + j * 3 + 2, none⟩) hbc] at c2
      simp only [] at c0 c1 c2
      have hs1 := tot_mono X (show s + j + 1 ≤ s + n by omega)
      rw [tot_succ] at hs1
      have hs2 := S_le_tot X k
      have hs3 := tot_mono X (show k ≤ s + n by have := hH.fit.le; omega)
      have hz : sz (X (s + j)) ≤ 2097152 := by unfold sz; omega
      have d0 := hH.c0
      have d1 := hH.c1
      have d2 := hH.c2
      have df := hH.fz
      have hlt2 := hH.lt
      have hkle := hH.fit.le
      have i1 : (j : Int) < (n : Int) := by omega
      by_cases hleft : k < s + j
      · have g1 : (0 : Int) < ((s + j - k : Nat) : Int) := by omega
        have hf := hH.fit.more hleft
        go_wp2_with (go_at_call 12; refine (size12 (X (s + j)) _ (by omega) (by omega) (by omega)).mono ?_; rintro e w' ⟨rfl, cc, rfl⟩)
        go_roundw
        case rel => exact ⟨j + 1, k, v, by omega, by go_num, ((hH.left hf).alloc _).alloc _⟩
        case measure => simp [intOf]; omega
      · obtain rfl : k = s + j := by omega
        have g1 : ¬ (0 : Int) < ((s + j - (s + j) : Nat) : Int) := by omega
        by_cases hbig : 65536 < S X (s + j) + sz (X (s + j))
        · have g2 : (65536 : Int) < (S X (s + j) : Int) + (sz (X (s + j)) : Int) := by omega
          have hf := hH.fit.first (by rw [S_succ]; exact hbig)
          go_wp2_with (go_at_call 12; refine (size12 (X (s + j)) _ (by omega) (by omega) (by omega)).mono ?_; rintro e w' ⟨rfl, cc, rfl⟩)
          go_roundw
          case rel => exact ⟨j + 1, s + j, v, by omega, by go_num, ((hH.first hf).alloc _).alloc _⟩
          case measure => simp [intOf]; omega
        · have g2 : ¬ (65536 : Int) < (S X (s + j) : Int) + (sz (X (s + j)) : Int) := by omega
          go_wp2_with (go_at_call 12; refine (size12 (X (s + j)) _ (by omega) (by omega) (by omega)).mono ?_; rintro e w' ⟨rfl, cc, rfl⟩)
          obtain ⟨i0, hi0, hz0, hz1, hz2⟩ := info_parts Try.info37
          have h3 := fun o1 o2 o3 => (((hH.alloc o1).alloc o2).alloc o3).drew
          have d3 : ∀ o1 o2 o3, (((wr.alloc o1).alloc o2).alloc o3).cell? ⟨cb, 0, none⟩ = some v := fun o1 o2 o3 => (h3 o1 o2 o3).c0
          go_region_law ((refine step_append_lies _ (by rfl) _ _ _ (by rfl) (cb + 1) 37 i0 _ 3 48 Try.underlying26 hi0 hz0 hz1 hz2 rfl (by omega) v (s + j) (cellsX X (s + j)) (by rfl) (h3 _ _ _).own ⟨wr.heap.size + 1 + 1, 0, none⟩ 1 1 [.string (X (s + j)).t, .string (X (s + j)).m, .string (X (s + j)).f] (by rfl) (by rfl) (World.news_of_block (cs := #[.string (X (s + j)).t, .string (X (s + j)).m, .string (X (s + j)).f]) (t := 37) (fr := (0, 0)) (heap3 _ _ _ _)) (by simp [Value.oneCell']) (by omega) (by unfold maxLen; omega) (by omega) (by simp; omega) (wr.heap.size + 1 + 1 + 1) (by simp) ?_; intro gg cap w1 hown1 hgrow hat hlt3; have hm := (h3 _ _ _).mid hown1 hgrow; have m0 := hm.c0; have m1 := hm.c1; have mf := hm.fz; clear hown1 hgrow hat hlt3))
          all_goals go_wp2
          all_goals go_roundw
          all_goals first | exact ⟨j + 1, s + j + 1, _, by omega, by go_num, hm.take (by rw [S_succ]; omega)⟩ | (simp [intOf]; omega)
    · go_wp2
      go_end0
      obtain rfl : j = n := by omega
      exact ⟨rfl, k, v, hH⟩

end Go.Proofs.Qxb6616102a
