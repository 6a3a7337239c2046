/-
  PROOFS: what a []byte that came in reads as; the laid sentinel; closed facts of the program for the builder.
-/
import Derived.Test.Qxb6616226aFmtWd
import Derived.Test.Qxb6616226aFmtCards
import Derived.Test.Qxb6616226aFmtTie
import Derived.ProofKit
import Derived.OpenShut
import Derived.ShutString
import Derived.ChangeOld
import Derived.Deep.Strs
import Derived.Stop.JoinedTold
import Derived.Stop.JoinedAt
import Derived.Stop.LaidErr
import Derived.SevenTiedAt
namespace Go.Proofs.Qxb6616226aFmt
open Go.ChangeShapes Go.WideShapes Go.ChangeAt Go.RowKit Go.Kit
open Go.Extern.Stop Go.Stop Go.Extern

theorem Tryf.own : ownKnob Tryf.prog.godebug = none := by kernel_rfl
theorem Tryf.laidOut : laidOutB Tryf.pinned.checked.prog = true := by kernel_rfl
theorem Tryf.laidOut' : laidOutB Tryf.prog = true := by kernel_rfl
theorem Tryf.stops : Tryf.pinned.checked.prog.stops = ["fmt.errorf"] := by kernel_rfl
theorem Tryf.stopKnobs : Tryf.pinned.checked.prog.stopKnobs = [] := by kernel_rfl
theorem Tryf.quiet (os : Os) : Stop.quiet Tryf.pinned.checked.prog os := by
  intro k hk
  rw [Tryf.stopKnobs] at hk
  cases hk
theorem Tryf.cells5 : Tryf.prog.cellsOf 5 = 1 := by kernel_rfl
theorem Tryf.cells9 : Tryf.prog.cellsOf 9 = 1 := by kernel_rfl
theorem Tryf.cells51 : Tryf.prog.cellsOf 51 = 1 := by kernel_rfl
/-- The listed variable's name, as the given row has it. -/
def errName : String := Rows.fnEndAfterOneUvarintTellsExactFitSpec.vars.headD ""
/-- The name of the type that it holds, as the given datum has it. -/
def sentName : String := match (Rows.laid_example_com_epochkeeper_epochkeeper_internal_codec_ErrShort : DataW Unit) with
  | .iface t _ => t
  | _ => ""
theorem Tryf.gE : Tryf.prog.globalNamed errName = some 0 := by kernel_rfl
theorem Tryf.gEType : (Tryf.prog.globals[0]?).map (·.type) = some 32 := by kernel_rfl
theorem Tryf.row49 (u : TypeId) (h : Tryf.prog.typeName? 3 u = some sentName) : u = 49 :=
  typeName_ptr_named (nm := "errors.errorString") (by kernel_rfl) (by kernel_rfl) (by decide) u (h.trans (congrArg some (by decide)))

abbrev shortS : ByteArray := { data := #[105, 116, 32, 101, 110, 100, 115, 32, 116, 111, 111, 32, 115, 111, 111, 110] }
def lowOf (P : Program) : Nat := (World.holding P default ⟨#[], #[], []⟩).heap.size
/-- A world in which the variable g holds a new error of text s. -/
def laidWorld (P : Program) (os : Os) (g : Nat) (s : ByteArray) : World :=
  let w0 := World.holding P os ⟨#[.cells #[.string s] 51], #[], []⟩
  { w0 with heap := w0.heap.modify g fun
      | .cells _ t frozen => .cells #[.iface 49 (.pointer (some ⟨lowOf P, 0, none⟩))] t frozen
      | o => o }
theorem laidE_met (os : Os) (args : Array Value) : laidMet Tryf.prog Rows.fnEndAfterOneUvarintTellsExactFitRow.laid ((laidWorld Tryf.prog os 0 shortS).forCall (fun _ _ => 0) ⟨#[], args, []⟩).memory :=
  laidMet_of_run (ps := [.cell 0 0, .cell (lowOf Tryf.prog) 0]) 8 (by kernel_rfl) (by kernel_rfl) (by kernel_rfl)

theorem var?_below {P : Program} {B g : Nat} {W W' : World} {n : String} {cs : Array Value} (h : Below B W W') (hg : P.globalNamed n = some g) (hgB : g < B) (hv : W.var? P n = some cs) : W'.var? P n = some cs := by
  unfold World.var? at hv ⊢
  simp only [hg, Option.bind_some] at hv ⊢
  rw [h.block g hgB]
  exact hv

theorem u8_of_wf {n : Int} (h : (Lit.int .u8 n).wf = true) : ∃ b : UInt8, n = (b.toNat : Int) := by
  have : 0 ≤ n ∧ n ≤ 255 := by
    simp [Lit.wf, IntKind.min, IntKind.max, IntKind.signed, IntKind.bits] at h
    omega
  refine ⟨n.toNat.toUInt8, ?_⟩
  rw [toU8 (by omega)]
  omega

/-- THE BYTES OPENED. -/
theorem open_bytes {H : Type} {enc : TypeId × Value → H} {w : World} {a : Option Addr} {len cap : Nat} {d : DataW H} {p : List MemPlace} (h : DataW.Trod enc Tryf.prog w 0 (fun _ => true) true 22 (.slice a len cap) d p) :
    ∃ l : List UInt8, l.length = len ∧ len ≤ maxLen ∧ (a = none → len = 0 ∧ cap = 0) ∧ Bs w a l := by
  obtain ⟨fuel, hf⟩ := h
  rcases Deep.open_slice1 Tryf.underlying22 Tryf.cells5 hf with ⟨hcs, _⟩ | ⟨ad, l, c, m, n, V, D, Pl, hcs, _, hl, hm, hmm, _, hx⟩
  · simp [Value.cells] at hcs
    obtain ⟨rfl, rfl, rfl⟩ := hcs
    exact ⟨[], rfl, Nat.zero_le _, fun _ => ⟨rfl, rfl⟩, fun _ h => absurd h (Nat.not_lt_zero _)⟩
  · simp [Value.cells] at hcs
    obtain ⟨rfl, rfl, rfl⟩ := hcs
    simp only [if_true] at hmm
    subst hmm
    obtain ⟨f, hf⟩ := Deep.choose_lt (α := UInt8) (n := len)
      (p := fun i x => ∃ b off, some ad = some (⟨b, off, none⟩ : Addr) ∧ b < w.heap.size ∧ w.cell? ⟨b, off + i, none⟩ = some (.int .u8 (x.toNat : Int))) (fun i hi => by
      obtain ⟨g1, g2⟩ := hx i (by omega)
      obtain ⟨t, e0, _, l0⟩ := DataW.trod_int Tryf.underlying5 g2
      obtain ⟨x, rfl⟩ := u8_of_wf l0
      obtain ⟨b, off, spot⟩ := ad
      have hspot : spot = none := by
        have h := World.cell?_spot (hx 0 (by omega)).1
        simpa [Addr.add] using h
      subst hspot
      rw [Addr.add_lit] at g1
      have e1 : V i = .int .u8 (x.toNat : Int) := by simpa using e0
      rw [e1] at g1
      exact ⟨x, b, off, rfl, World.block_lt_of_cell? _ _ g1, g1⟩)
    refine ⟨(List.range len).map f, by simp, by omega, fun h => by simp at h, fun j hj => ?_⟩
    rw [List.length_map, List.length_range] at hj
    obtain ⟨b, off, e, hb, hc⟩ := hf j hj
    exact ⟨b, off, e, hb, by rw [hc]; simp⟩

end Go.Proofs.Qxb6616226aFmt
