/-
  PROOFS: what a []CauseIn that came in reads as.
-/
import Derived.Test.Qxb6616102aWf
import Derived.ProofKit
import Derived.OpenShut
import Derived.ShutString
import Derived.ChangeOld
import Derived.Deep.Strs
namespace Go.Proofs.Qxb6616102a
open Go.ChangeShapes Go.WideShapes Go.ChangeAt Go.RowKit

theorem Try.own : ownKnob Try.prog.godebug = none := by kernel_rfl
theorem Try.laidOut : laidOutB Try.prog = true := by kernel_rfl
theorem Try.cells25 : Try.prog.cellsOf 25 = 3 := by kernel_rfl
theorem Try.cells9 : Try.prog.cellsOf 9 = 1 := by kernel_rfl

/-- A cause's three texts out of its reading. -/
theorem open_cause {H : Type} {enc : TypeId × Value → H} {w : World} {n : Nat} {cs : List Value} {x : DataW H × List MemPlace} (h : DataW.trod enc Try.prog w 0 (fun _ => true) true n 25 cs = some x) :
    ∃ t m f : ByteArray, cs = [.string t, .string m, .string f] ∧ t.size ≤ maxLen ∧ m.size ≤ maxLen ∧ f.size ≤ maxLen := by
  obtain ⟨y0, y1, y2, k, _, hl, h0, h1, h2⟩ := Deep.trod_struct3 Try.underlying25 h
  rw [Try.cells25] at hl
  match cs, hl with
  | [c0, c1, c2], _ =>
    simp only [Try.cells9] at h0 h1 h2
    obtain ⟨t, e0, _, l0⟩ := DataW.trod_string Try.underlying9 h0
    obtain ⟨m, e1, _, l1⟩ := DataW.trod_string Try.underlying9 h1
    obtain ⟨f, e2, _, l2⟩ := DataW.trod_string Try.underlying9 h2
    simp at e0 e1 e2
    exact ⟨t, m, f, by rw [e0, e1, e2], l0, l1, l2⟩

/-- THE ARGUMENT OPENED. -/
theorem open_causes {H : Type} {enc : TypeId × Value → H} {w : World} {a : Option Addr} {len cap : Nat} {d : DataW H} {p : List MemPlace} (h : DataW.Trod enc Try.prog w 0 (fun _ => true) true 22 (.slice a len cap) d p) :
    ∃ X : Nat → Cz, len ≤ maxLen ∧ len ≤ cap ∧ cap ≤ maxLen ∧ (a = none → len = 0 ∧ cap = 0) ∧ Lies w a len X := by
  obtain ⟨fuel, hf⟩ := h
  rcases Deep.open_slice Try.underlying22 hf with ⟨hcs, _⟩ | ⟨ad, l, c, m, n, D, Pl, hcs, _, hl, hm, hmm, _, hx⟩
  · simp [Value.cells] at hcs
    obtain ⟨rfl, rfl, rfl⟩ := hcs
    exact ⟨fun _ => ⟨ByteArray.empty, ByteArray.empty, ByteArray.empty⟩, Nat.zero_le _, Nat.le_refl _, Nat.zero_le _, fun _ => ⟨rfl, rfl⟩, fun _ h => absurd h (Nat.not_lt_zero _)⟩
  · simp [Value.cells] at hcs
    obtain ⟨rfl, rfl, rfl⟩ := hcs
    simp only [if_true] at hmm
    subst hmm
    rw [Try.cells25] at hx
    obtain ⟨f, hf⟩ := Deep.choose_lt (α := ByteArray × ByteArray × ByteArray) (n := len)
      (p := fun i x => ∃ b off, some ad = some (⟨b, off, none⟩ : Addr) ∧ b < w.heap.size ∧ w.cell? ⟨b, off + i * 3, none⟩ = some (.string x.1) ∧ w.cell? ⟨b, off + i * 3 + 1, none⟩ = some (.string x.2.1) ∧ w.cell? ⟨b, off + i * 3 + 2, none⟩ = some (.string x.2.2) ∧
        x.1.size ≤ maxLen ∧ x.2.1.size ≤ maxLen ∧ x.2.2.size ≤ maxLen) (fun i hi => by
      obtain ⟨cs', g1, g2⟩ := hx i (by omega)
      obtain ⟨t, m, f, rfl, l0, l1, l2⟩ := open_cause g2
      obtain ⟨_, _, hcell⟩ := World.cells?_some g1
      have k0 := hcell 0 (by omega)
      have k1 := hcell 1 (by omega)
      have k2 := hcell 2 (by omega)
      rw [Deep.add_add] at k0 k1 k2
      simp only [List.getElem?_cons_zero, List.getElem?_cons_succ] at k0 k1 k2
      obtain ⟨b, off, spot⟩ := ad
      have hspot : spot = none := by
        obtain ⟨cs0, g3, g4⟩ := hx 0 (by omega)
        obtain ⟨t0, m0, f0, rfl, _⟩ := open_cause g4
        have h := World.cell?_spot ((World.cells?_some g3).2.2 0 (by omega))
        simpa [Addr.add] using h
      subst hspot
      rw [Addr.add_lit] at k0 k1 k2
      refine ⟨(t, m, f), b, off, rfl, World.block_lt_of_cell? _ _ k0, ?_, ?_, ?_, l0, l1, l2⟩
      · simpa using k0
      · rw [Nat.add_assoc]; exact k1
      · rw [Nat.add_assoc]; exact k2)
    refine ⟨fun i => ⟨(f i).1, (f i).2.1, (f i).2.2⟩, by omega, hl, hm, fun h => by simp at h, fun i hi => ?_⟩
    obtain ⟨b, off, e, r⟩ := hf i hi
    exact ⟨b, off, e, r⟩

end Go.Proofs.Qxb6616102a
