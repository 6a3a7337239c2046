/-
  THE PLAIN LAW of the two statements on 'meta.Causes': prefix sums and the longest fitting prefix. No Go in sight.
-/
namespace Go.Proofs.Qxb6616102a

/-- A cause: its three texts. -/
structure Cz where
  t : ByteArray
  m : ByteArray
  f : ByteArray

/-- What one listed cause takes. -/
def sz (c : Cz) : Nat := 42 + c.t.size + 2 * (c.f.size + c.m.size)

/-- What the first k causes take together. -/
def S (X : Nat → Cz) : Nat → Nat
  | 0 => 0
  | k + 1 => S X k + sz (X k)

/-- The law's own count of what the first k causes hold. -/
def tot (X : Nat → Cz) : Nat → Nat
  | 0 => 0
  | k + 1 => tot X k + (48 + (X k).t.size + (X k).m.size + (X k).f.size)

theorem S_succ (X : Nat → Cz) (k : Nat) : S X (k + 1) = S X k + sz (X k) := rfl
theorem tot_succ (X : Nat → Cz) (k : Nat) : tot X (k + 1) = tot X k + (48 + (X k).t.size + (X k).m.size + (X k).f.size) := rfl

theorem S_mono (X : Nat → Cz) {a b : Nat} (h : a ≤ b) : S X a ≤ S X b := by
  induction b with
  | zero => rw [Nat.le_zero.1 h]; exact Nat.le_refl _
  | succ b ih =>
    rcases Nat.lt_or_eq_of_le h with h | h
    · exact Nat.le_trans (ih (by omega)) (by rw [S_succ]; omega)
    · rw [h]; exact Nat.le_refl _

theorem tot_mono (X : Nat → Cz) {a b : Nat} (h : a ≤ b) : tot X a ≤ tot X b := by
  induction b with
  | zero => rw [Nat.le_zero.1 h]; exact Nat.le_refl _
  | succ b ih =>
    rcases Nat.lt_or_eq_of_le h with h | h
    · exact Nat.le_trans (ih (by omega)) (by rw [tot_succ]; omega)
    · rw [h]; exact Nat.le_refl _

theorem S_le_tot (X : Nat → Cz) (k : Nat) : S X k ≤ 2 * tot X k := by
  induction k with
  | zero => simp [S]
  | succ k ih => rw [S_succ, tot_succ]; unfold sz; omega

/-- k causes are listed of the first n: they fit, and the next one does not. -/
structure IsFit (X : Nat → Cz) (n k : Nat) : Prop where
  le : k ≤ n
  fits : S X k ≤ 65536
  next : k < n → 65536 < S X (k + 1)

theorem IsFit.uniq {X : Nat → Cz} {n k l : Nat} (h : IsFit X n k) (g : IsFit X n l) : k = l := by
  rcases Nat.lt_trichotomy k l with c | c | c
  · have h1 := h.next (by have := g.le; omega)
    have h2 := S_mono X (show k + 1 ≤ l from c)
    have h3 := g.fits
    omega
  · exact c
  · have h1 := g.next (by have := h.le; omega)
    have h2 := S_mono X (show l + 1 ≤ k from c)
    have h3 := h.fits
    omega

theorem IsFit.zero (X : Nat → Cz) : IsFit X 0 0 := ⟨Nat.le_refl _, by simp [S], fun h => absurd h (Nat.lt_irrefl _)⟩

/-- The next cause is listed: nothing was left out yet, and it fits. -/
theorem IsFit.take {X : Nat → Cz} {n : Nat} (h : S X (n + 1) ≤ 65536) : IsFit X (n + 1) (n + 1) := ⟨Nat.le_refl _, h, fun k => absurd k (Nat.lt_irrefl _)⟩

/-- The next cause is left out: one was left out already. -/
theorem IsFit.more {X : Nat → Cz} {n k : Nat} (h : IsFit X n k) (hk : k < n) : IsFit X (n + 1) k := ⟨by omega, h.fits, fun _ => h.next hk⟩

/-- The next cause is left out: it does not fit. -/
theorem IsFit.first {X : Nat → Cz} {n : Nat} (h : IsFit X n n) (hk : 65536 < S X (n + 1)) : IsFit X (n + 1) n := ⟨by omega, h.fits, fun _ => hk⟩

end Go.Proofs.Qxb6616102a
