/-
  PROOFS: what a []string that came in reads as; closed facts of the program for the builder.
-/
import Derived.Test.Qxb6616116aWj
import Derived.ProofKit
import Derived.OpenShut
import Derived.ShutString
import Derived.ChangeOld
import Derived.Deep.Strs
namespace Go.Proofs.Qxb6616116a
open Go.ChangeShapes Go.WideShapes Go.ChangeAt Go.RowKit

theorem Try.own : ownKnob Try.prog.godebug = none := by kernel_rfl
theorem Try.laidOut : laidOutB Try.prog = true := by kernel_rfl
theorem Try.cells9 : Try.prog.cellsOf 9 = 1 := by kernel_rfl

/-- THE NAMES OPENED. -/
theorem open_names {H : Type} {enc : TypeId × Value → H} {w : World} {a : Option Addr} {len cap : Nat} {d : DataW H} {p : List MemPlace} (h : DataW.Trod enc Try.prog w 0 (fun _ => true) true 22 (.slice a len cap) d p) :
    ∃ N : Nat → ByteArray, len ≤ maxLen ∧ (a = none → len = 0 ∧ cap = 0) ∧ Ns w a len N := by
  obtain ⟨fuel, hf⟩ := h
  rcases Deep.open_slice1 Try.underlying22 Try.cells9 hf with ⟨hcs, _⟩ | ⟨ad, l, c, m, n, V, D, Pl, hcs, _, hl, hm, hmm, _, hx⟩
  · simp [Value.cells] at hcs
    obtain ⟨rfl, rfl, rfl⟩ := hcs
    exact ⟨fun _ => ByteArray.empty, Nat.zero_le _, fun _ => ⟨rfl, rfl⟩, fun _ h => absurd h (Nat.not_lt_zero _)⟩
  · simp [Value.cells] at hcs
    obtain ⟨rfl, rfl, rfl⟩ := hcs
    simp only [if_true] at hmm
    subst hmm
    obtain ⟨f, hf⟩ := Deep.choose_lt (α := ByteArray) (n := len)
      (p := fun i x => ∃ b off, some ad = some (⟨b, off, none⟩ : Addr) ∧ b < w.heap.size ∧ w.cell? ⟨b, off + i, none⟩ = some (.string x) ∧ x.size ≤ maxLen) (fun i hi => by
      obtain ⟨g1, g2⟩ := hx i (by omega)
      obtain ⟨t, e0, _, l0⟩ := DataW.trod_string Try.underlying9 g2
      obtain ⟨b, off, spot⟩ := ad
      have hspot : spot = none := by
        have h := World.cell?_spot (hx 0 (by omega)).1
        simpa [Addr.add] using h
      subst hspot
      rw [Addr.add_lit] at g1
      have e1 : V i = .string t := by simpa using e0
      rw [e1] at g1
      exact ⟨t, b, off, rfl, World.block_lt_of_cell? _ _ g1, g1, l0⟩)
    exact ⟨f, by omega, fun h => by simp at h, hf⟩

end Go.Proofs.Qxb6616116a
