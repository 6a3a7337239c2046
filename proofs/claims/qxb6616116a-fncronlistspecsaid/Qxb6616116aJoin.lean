/-
  THE PLAIN LAW of cron's lists, more: the case of letters; joining two texts by a comma. No Go in sight.
-/
import Derived.Test.Qxb6616116aList
namespace Go.Proofs.Qxb6616116a

/-! ### The case of letters -/
theorem sw42 (c : UInt8) : (sw c == 42) = (c == 42) := all256 (p := fun c => (sw c == 42) = (c == 42)) (by decide +kernel) c
theorem sw44 (c : UInt8) : (sw c == 44) = (c == 44) := all256 (p := fun c => (sw c == 44) = (c == 44)) (by decide +kernel) c
theorem sw45 (c : UInt8) : (sw c == 45) = (c == 45) := all256 (p := fun c => (sw c == 45) = (c == 45)) (by decide +kernel) c
theorem sw47 (c : UInt8) : (sw c == 47) = (c == 47) := all256 (p := fun c => (sw c == 47) = (c == 47)) (by decide +kernel) c

theorem hd_map (c : UInt8) (h : ∀ x, (sw x == c) = (x == c)) (l : List UInt8) : hd c (l.map sw) = hd c l := by
  cases l with
  | nil => rfl
  | cons x l =>
    unfold hd
    simp only [List.map_cons, List.head?_cons]
    show (some (sw x) == some c) = (some x == some c)
    rw [Option.some_beq_some, Option.some_beq_some]
    exact h x

theorem alLen_map (l : List UInt8) : alLen (l.map sw) = alLen l := by
  unfold alLen
  rw [List.takeWhile_map, List.length_map]
  congr 2
  funext c
  exact isAl_sw c

theorem run_map (l : List UInt8) : run (l.map sw) = (run l).map sw := by
  unfold run
  rw [alLen_map, List.map_take]

theorem numB_map (l : List UInt8) : numB (l.map sw) = numB l := by
  unfold numB
  rw [List.isEmpty_map, List.all_map]
  congr 2
  funext c
  exact isD_sw c

section
variable (V : List UInt8 → Bool)

theorem rest_map (r : Bool) (l : List UInt8) (n : Nat) : rest r (l.map sw) n = rest r l n := by
  unfold rest
  simp only [← List.map_drop, hd_map 47 sw47, run_map, numB_map, alLen_map]

theorem termOf_map (hV : ∀ r, V (r.map sw) = V r) (l : List UInt8) : termOf V (l.map sw) = termOf V l := by
  unfold termOf
  simp only [rest_map, ← List.map_drop, hd_map 42 sw42, hd_map 45 sw45, run_map, alLen_map, hV]

theorem lf_map (hV : ∀ r, V (r.map sw) = V r) (L : List UInt8) : ∀ f p, lf V (L.map sw) f p = lf V L f p
  | 0, _ => by simp [lf]
  | f + 1, p => by
    simp only [lf, ← List.map_drop, termOf_map V hV, List.length_map, hd_map 44 sw44]
    cases termOf V (L.drop p) with
    | none => rfl
    | some n => simp only [lf_map hV L f]

/-- THE LIST DOES NOT LOOK AT THE CASE OF LETTERS. -/
theorem listOf_map (hV : ∀ r, V (r.map sw) = V r) (L : List UInt8) : listOf V (L.map sw) = listOf V L := by
  unfold listOf lft
  rw [List.length_map]
  exact lf_map V hV L _ _

/-! ### Joining by a comma -/
theorem alLen_app {x : UInt8} (hx : isAl x = false) (l r : List UInt8) : alLen (l ++ x :: r) = alLen l := by
  unfold alLen
  induction l with
  | nil => simp [hx]
  | cons c l ih =>
    by_cases hc : isAl c = true
    · rw [List.cons_append, List.takeWhile_cons_of_pos hc, List.takeWhile_cons_of_pos hc, List.length_cons, List.length_cons, ih]
    · rw [List.cons_append, List.takeWhile_cons_of_neg hc, List.takeWhile_cons_of_neg hc]

theorem run_app {x : UInt8} (hx : isAl x = false) (l r : List UInt8) : run (l ++ x :: r) = run l := by
  unfold run
  rw [alLen_app hx, List.take_append_of_le_length (alLen_le l)]

theorem hd_app {c x : UInt8} (hx : x ≠ c) (l r : List UInt8) : hd c (l ++ x :: r) = hd c l := by
  cases l with
  | nil => simp [hd, hx]
  | cons y l => simp [hd]

theorem drop_app {a r : List UInt8} {q : Nat} (hq : q ≤ a.length) : (a ++ r).drop q = a.drop q ++ r := by
  rw [List.drop_append_of_le_length hq]

theorem lf_shift (x b : List UInt8) : ∀ f q, lf V (x ++ b) f (x.length + q) = x.length + lf V b f q
  | 0, _ => by simp [lf]
  | f + 1, q => by
    have hd1 : ∀ q, (x ++ b).drop (x.length + q) = b.drop q := fun q => by rw [List.drop_append]; simp
    simp only [lf, hd1]
    cases termOf V (b.drop q) with
    | none => simp
    | some n =>
      have e : x.length + q + n = x.length + (q + n) := by omega
      simp only [e, hd1]
      by_cases hc : hd 44 (b.drop (q + n)) = true
      · rw [if_pos hc, if_pos hc]
        exact lf_shift x b f (q + n + 1)
      · rw [if_neg hc, if_neg hc]

theorem lft_shift (x b : List UInt8) : lft V (x ++ b) x.length = x.length + listOf V b := by
  unfold listOf lft
  have h := lf_shift V x b (b.length + 1) 0
  rw [Nat.add_zero] at h
  rw [List.length_append, show x.length + b.length + 1 - x.length = b.length + 1 by omega]
  exact h

/-- How the list over 'a,b' stands to the list over 'a '. -/
def Rel (a b : List UInt8) (r1 r2 : Nat) : Prop :=
  (r2 < a.length ∧ r1 = r2) ∨ (r2 = a.length ∧ r1 = a.length + 1 + listOf V b) ∨ (r2 = a.length + 1 ∧ r1 = a.length + 1 + b.length)

theorem al44 : isAl 44 = false := by decide
theorem al32 : isAl 32 = false := by decide

/-- It holds of all places behind q0. -/
def Beyond (a b : List UInt8) (q0 : Nat) : Prop := ∀ q, q0 < q → q ≤ a.length → Rel V a b (lft V (a ++ 44 :: b) q) (lft V (a ++ [32]) q)

theorem rel_after {a b : List UInt8} {q0 q : Nat} (H : Beyond V a b q0) (h0 : q0 ≤ q) (hq : q ≤ a.length) : Rel V a b (after V (a ++ 44 :: b) q) (after V (a ++ [32]) q) := by
  unfold after
  rw [drop_app hq, drop_app hq, hd_app (c := 44) (x := 32) (by decide)]
  rcases Nat.lt_or_eq_of_le hq with hlt | rfl
  · have e : hd 44 (a.drop q ++ 44 :: b) = hd 44 (a.drop q) := by
      rw [List.drop_eq_getElem_cons hlt]
      rfl
    rw [e]
    by_cases hc : hd 44 (a.drop q) = true
    · rw [if_pos hc, if_pos hc]
      exact H (q + 1) (by omega) hlt
    · rw [if_neg hc, if_neg hc]
      exact .inl ⟨hlt, rfl⟩
  · rw [List.drop_length]
    have e1 : hd 44 ([] ++ 44 :: b) = true := by simp [hd]
    have e2 : hd 44 ([] : List UInt8) = false := by simp [hd]
    rw [e1, e2, if_pos rfl, if_neg (by simp)]
    refine .inr (.inl ⟨rfl, ?_⟩)
    have h := lft_shift V (a ++ [44]) b
    rw [List.append_assoc, List.length_append] at h
    exact h

theorem rel_len (a b : List UInt8) : Rel V a b (a ++ 44 :: b).length (a ++ [32]).length := .inr (.inr ⟨by simp, by simp; omega⟩)

theorem rel_s4 {a b : List UInt8} {q0 q : Nat} (H : Beyond V a b q0) (h0 : q0 ≤ q) (hq : q ≤ a.length) : Rel V a b (s4 V (a ++ 44 :: b) q) (s4 V (a ++ [32]) q) := by
  unfold s4
  rw [drop_app hq, drop_app hq, run_app al44, run_app al32, alLen_app al44, alLen_app al32]
  by_cases hc : numB (run (a.drop q)) = true
  · rw [if_pos hc, if_pos hc]
    exact rel_after V H (by omega) (alLen_drop a q hq)
  · rw [if_neg hc, if_neg hc]
    exact rel_len V a b

theorem rel_s3 {a b : List UInt8} {q0 q : Nat} (H : Beyond V a b q0) (h0 : q0 ≤ q) (hq : q ≤ a.length) : Rel V a b (s3 V (a ++ 44 :: b) q) (s3 V (a ++ [32]) q) := by
  unfold s3
  rw [drop_app hq, drop_app hq, hd_app (c := 47) (x := 44) (by decide), hd_app (c := 47) (x := 32) (by decide)]
  by_cases hc : hd 47 (a.drop q) = true
  · have := hd_drop hc
    rw [if_pos hc, if_pos hc]
    exact rel_s4 V H (by omega) (by omega)
  · rw [if_neg hc, if_neg hc]
    exact rel_after V H h0 hq

theorem rel_s2 {a b : List UInt8} {q0 q : Nat} (H : Beyond V a b q0) (h0 : q0 ≤ q) (hq : q ≤ a.length) : Rel V a b (s2 V (a ++ 44 :: b) q) (s2 V (a ++ [32]) q) := by
  unfold s2
  rw [drop_app hq, drop_app hq, run_app al44, run_app al32, alLen_app al44, alLen_app al32]
  by_cases hc : V (run (a.drop q)) = true
  · rw [if_pos hc, if_pos hc]
    exact rel_s3 V H (by omega) (alLen_drop a q hq)
  · rw [if_neg hc, if_neg hc]
    exact rel_len V a b

theorem rel_s1 {a b : List UInt8} {q0 q : Nat} (H : Beyond V a b q0) (h0 : q0 ≤ q) (hq : q ≤ a.length) : Rel V a b (s1 V (a ++ 44 :: b) q) (s1 V (a ++ [32]) q) := by
  unfold s1
  rw [drop_app hq, drop_app hq, hd_app (c := 45) (x := 44) (by decide), hd_app (c := 45) (x := 32) (by decide), hd_app (c := 47) (x := 44) (by decide), hd_app (c := 47) (x := 32) (by decide)]
  by_cases hc : hd 45 (a.drop q) = true
  · have := hd_drop hc
    rw [if_pos hc, if_pos hc]
    exact rel_s2 V H (by omega) (by omega)
  · rw [if_neg hc, if_neg hc]
    by_cases hc2 : hd 47 (a.drop q) = true
    · rw [if_pos hc2, if_pos hc2]
      exact rel_len V a b
    · rw [if_neg hc2, if_neg hc2]
      exact rel_after V H h0 hq

theorem rel_s0 {a b : List UInt8} {q0 q : Nat} (H : Beyond V a b q0) (h0 : q0 ≤ q) (hq : q ≤ a.length) : Rel V a b (s0 V (a ++ 44 :: b) q) (s0 V (a ++ [32]) q) := by
  unfold s0
  rw [drop_app hq, drop_app hq, hd_app (c := 42) (x := 44) (by decide), hd_app (c := 42) (x := 32) (by decide), run_app al44, run_app al32, alLen_app al44, alLen_app al32]
  by_cases hc : hd 42 (a.drop q) = true
  · have := hd_drop hc
    rw [if_pos hc, if_pos hc]
    exact rel_s3 V H (by omega) (by omega)
  · rw [if_neg hc, if_neg hc]
    by_cases hc2 : V (run (a.drop q)) = true
    · rw [if_pos hc2, if_pos hc2]
      exact rel_s1 V H (by omega) (alLen_drop a q hq)
    · rw [if_neg hc2, if_neg hc2]
      exact rel_len V a b

theorem rel_lft (a b : List UInt8) : ∀ k q, q ≤ a.length → a.length - q < k → Rel V a b (lft V (a ++ 44 :: b) q) (lft V (a ++ [32]) q)
  | 0, _, _, h => by omega
  | k + 1, q, hq, h => by
    rw [lft_s0 V _ _ (by simp; omega), lft_s0 V _ _ (by simp; omega)]
    exact rel_s0 V (q0 := q) (fun q' h1 h2 => rel_lft a b k q' h2 (by omega)) (Nat.le_refl _) hq

/-- JOINING BY A COMMA. -/
theorem list_join (a b : List UInt8) : Rel V a b (listOf V (a ++ 44 :: b)) (listOf V (a ++ [32])) := rel_lft V a b (a.length + 1) 0 (Nat.zero_le _) (by omega)

end
end Go.Proofs.Qxb6616116a
