/-
  PROOFS: FnAppendStringRoundTripsThroughReader: the told and tied card.
-/
import Derived.Test.Qxb6616226aFmtPo
import Derived.Test.Qxb6616226aFmtWf
namespace Go.Proofs.Qxb6616226aFmt
open Go.ChangeShapes Go.WideShapes Go.ChangeAt Go.RowKit Go.Kit
open Go.ChangeMaps (open_string shut_string)
open Go.Extern.Stop Go.Stop Go.Extern

theorem Kp.frame {W w' : World} (h : Kp W.heap.size W w') (may : MemPlace → Prop) : W.keptBut w' may := by
  refine ⟨h.1, h.2.1, fun i hi => ?_⟩
  rw [h.2.2.2 i hi]
  split <;> simp_all

theorem Kp.same {W w' : World} (h : Kp W.heap.size W w') {p : MemPlace} (hp : p.block < W.heap.size) : W.sameAt w' p := by
  cases p with
  | cell b o => exact World.cell?_of_block (w := W) (h.2.2.2 b hp)
  | map b => exact h.2.2.2 b hp

theorem Kp.trod {H : Type} {enc : TypeId × Value → H} {P : Program} {t : TypeId} (hl : laidOutB P = true) (hr : P.readableRec t = true) (hrow : t < P.types.size) {W W' : World} {v : Value} {d : DataW H} {ps : List MemPlace}
    (h : DataW.Trod enc P W 0 (fun _ => true) true t v d ps) (hb : Kp W.heap.size W W') (hlt : ∀ x ∈ ps, x.block < W.heap.size) :
    DataW.Trod enc P W' 0 (fun b => decide (b < W.heap.size)) true t v d ps :=
  WideElems.Trod_stays hl hr hrow h (fun x hx => hb.same (hlt x hx)) (fun x hx => by simpa using hlt x hx)

theorem var?_kp {P : Program} {B g : Nat} {W W' : World} {n : String} {cs : Array Value} (h : Kp B W W') (hg : P.globalNamed n = some g) (hgB : g < B) (hv : W.var? P n = some cs) : W'.var? P n = some cs := by
  unfold World.var? at hv ⊢
  simp only [hg, Option.bind_some] at hv ⊢
  rw [h.2.2.2 g hgB]
  exact hv

theorem laidA_met (os : Os) (args : Array Value) : laidMet Tryf.prog Rows.fnAppendStringRoundTripsThroughReaderRow.laid ((laidWorld Tryf.prog os 0 shortS).forCall (fun _ _ => 0) ⟨#[], args, []⟩).memory :=
  laidMet_of_run (ps := [.cell 0 0, .cell (lowOf Tryf.prog) 0]) 8 (by kernel_rfl) (by kernel_rfl) (by kernel_rfl)

set_option maxRecDepth 100000 in
set_option maxHeartbeats 1600000 in
theorem fnAppendStringRoundTripsThroughReader_lifted (os : Os) (started : os.Started) (H : Type) (enc : TypeId × Value → H) :
    ReturnsInTold none {} Tryf.checked os 3 .any Input.okWide ((OpenSpec.ofChange Rows.fnAppendStringRoundTripsThroughReaderSpec).preRow enc Tryf.prog Tryf.f3 [] false Rows.fnAppendStringRoundTripsThroughReaderRow.laid) (fun F => ((OpenSpec.ofChange Rows.fnAppendStringRoundTripsThroughReaderSpec).at F).post enc Tryf.prog Tryf.f3 false true false false) (aloneAtReturn Tryf.prog) nothingAlways := by
  refine returnsInTold_of_row (C := Tryf.checked) (s := OpenSpec.ofChange Rows.fnAppendStringRoundTripsThroughReaderSpec) (by kernel_rfl) Tryf.own started (by kernel_rfl) Tryf.func3
    (OpenSpec.witness_stopped_at (enc := enc) (C := Tryf.checked) false (laidWorld Tryf.prog os 0 shortS) #[.slice none 0 0, .string ⟨#[]⟩] rfl (by kernel_rfl) (by kernel_rfl) (by kernel_rfl)
      (OpenSpec.preRow_of_B rfl 8 (by kernel_rfl) (by kernel_rfl) (laidA_met os _))) ?_
  intro F W base args ds gs before _ hF hval0 hW _ _ _ hL _
  have hval : ∀ (j : Nat) t v, Tryf.f3.params[j]? = some t → args[j]? = some v → Value.okWide Tryf.prog W .any base t v := hval0
  have hW' := hW
  obtain ⟨p, q, hA0, hV0, rfl, hfz, hnd⟩ := hW
  have hA : DataW.TrodAll enc Tryf.prog W 0 (fun _ => true) true Tryf.f3.params.toList args.toList ds p := hA0
  have hV : DataW.TrodVars enc Tryf.prog W (fun _ => true) [errName] gs q := hV0
  rw [Tryf.params3] at hA hval
  obtain ⟨v0, vs0, d0, ds0, p0, q0, hargs, rfl, rfl, h0, r0⟩ := trodAll_cons hA
  obtain ⟨v1, vs1, d1, ds1, p1, q1, rfl, rfl, rfl, h1, r1⟩ := trodAll_cons r0
  obtain ⟨rfl, rfl, rfl⟩ := trodAll_nil r1
  obtain rfl : args = #[v0, v1] := by cases args; simp_all
  obtain ⟨a1, s1, hv1, hc1, hs1, hz1⟩ := laid_sentinel hL Tryf.gE Tryf.gEType Tryf.underlying32 Tryf.row49 Tryf.underlying49 Tryf.underlying51 rfl rfl Tryf.underlying9 Tryf.cells51 Tryf.cells9
  obtain ⟨rfl, rfl⟩ := hV.unique (vars_read1 enc Tryf.gE Tryf.gEType Tryf.underlying32 hv1 trivial _)
  clear hA0 hV0 hval0
  have hg1 : W.cell? ⟨0, 0, none⟩ = some (.iface 49 (.pointer (some a1))) := by simpa using World.var?_cell Tryf.gE hv1 0
  have h0lt : 0 < W.heap.size := by
    rcases Nat.lt_or_ge 0 W.heap.size with h | h
    · exact h
    · simp [World.cell?, Array.getElem?_eq_none h] at hg1
  obtain ⟨a0, len0, cap0, rfl⟩ := okWide_slice Tryf.underlying22 (hval 0 22 v0 rfl rfl)
  have lt0 : ∀ x ∈ p0, x.block < W.heap.size := by obtain ⟨m, hm⟩ := h0; exact DataW.trod_lt m _ _ _ hm
  obtain ⟨l, hll, hlen, hnil, hB⟩ := open_bytes h0
  obtain ⟨t1, rfl, rfl, rfl, w1⟩ := open_string Tryf.underlying9 (hval 1 9 v1 rfl rfl) h1
  refine (law3 a0 len0 cap0 l t1 W hlen w1 hll hB hnil).mono fun e W' ⟨he, bel⟩ => ?_
  subst he
  refine ⟨_, rfl, _, _, _, [], p0 ++ ([] ++ []), [.cell 0 0], hW', ?_, ?_, ?_, bel.frame _, fun h => by cases h⟩
  · exact trodAll_mk1 (shut_bool Tryf.underlying4 _)
  · exact trodAll_cons_mk (Kp.trod Tryf.laidOut' (by kernel_rfl) (of_decide_eq_true (by kernel_rfl)) h0 bel lt0) (trodAll_cons_mk (shut_string Tryf.underlying9 w1) trodAll_mk0)
  · exact vars_read1 enc Tryf.gE Tryf.gEType Tryf.underlying32 (var?_kp bel Tryf.gE h0lt hv1) trivial _

theorem fnAppendStringRoundTripsThroughReader_holds : Rows.FnAppendStringRoundTripsThroughReaderToldSaid :=
  Claim7.holds_of_told_tied_any_at .later 3 Tryf.f3 "fmt.errorf" [] [] _ _ _ _ _ (by kernel_rfl) rfl rfl rfl Tryf.laidOut (by kernel_rfl) rfl ⟨rfl, rfl, rfl, rfl, rfl, rfl, rfl⟩ rfl rfl (by kernel_rfl) (by kernel_rfl) Tryf.func3 (by kernel_rfl)
    (of_decide_eq_true (by kernel_rfl)) (of_decide_eq_true (by kernel_rfl)) Tryf.stops.symm rfl Tryf.stopKnobs.symm (by kernel_rfl)
    (by kernel_rfl) (by kernel_rfl) (by kernel_rfl) (by kernel_rfl) (by kernel_rfl) (by kernel_rfl) (by kernel_rfl) (by kernel_rfl) (by kernel_rfl) rfl (by kernel_rfl) rfl rfl
    rfl rfl
    rfl (by kernel_rfl) (by kernel_rfl) (by kernel_rfl) (by decide) (by kernel_rfl) fnAppendStringRoundTripsThroughReader_row_tie
    (OpenClaim.moreEntering_of (by kernel_rfl) (by kernel_rfl) (by kernel_rfl) (by kernel_rfl) (by kernel_rfl) (by kernel_rfl) (by kernel_rfl) (by kernel_rfl) (by kernel_rfl) (by kernel_rfl))
    ⟨_, WideRow.started_initial, Tryf.quiet _⟩
    (fun os started _ H enc _ => fnAppendStringRoundTripsThroughReader_lifted os started H enc)

end Go.Proofs.Qxb6616226aFmt
