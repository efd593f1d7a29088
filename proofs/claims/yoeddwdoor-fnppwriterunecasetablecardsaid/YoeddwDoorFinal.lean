/-
  THE ROW AND THE TIED CARD of FnPPWriteRuneCaseTable, proved out of the law's walk (YoeddwDoorLaw).
-/
import Derived.Test.YoeddwDoorCards
import Derived.Test.YoeddwDoorTie
import Derived.Test.YoeddwDoorLaw
import Derived.ProofKit
import Derived.LaidMore
import Derived.OpenShut
import Derived.Stop.Joined
import Derived.Stop.LaidErr
import Derived.SevenTiedAt
namespace Go.Proofs.YoeddwDoor
open Go.ChangeShapes Go.WideShapes Go.ChangeAt Go.WideMaps Go.WideElems Go.RowKit

/-- The row's two variables and its list, by the given row's own cells. -/
def nMax : String := Rows.fnPPWriteRuneCaseTableSpec.vars.headD ""
def nErr : String := Rows.fnPPWriteRuneCaseTableSpec.vars.tail.headD ""
def laidList : List (String × DataW Unit) := Rows.fnPPWriteRuneCaseTableRow.laid

theorem own : ownKnob Eddg.prog.godebug = none := by kernel_rfl
theorem laidOut : laidOutB Eddg.prog = true := by kernel_rfl
theorem cells5 : Eddg.prog.cellsOf 5 = 1 := by kernel_rfl
theorem gMax : Eddg.prog.globalNamed nMax = some 0 := by kernel_rfl
theorem gErr : Eddg.prog.globalNamed nErr = some 1 := by kernel_rfl
theorem tMax : (Eddg.prog.globals[0]?).map (·.type) = some 3 := by kernel_rfl
theorem tErr : (Eddg.prog.globals[1]?).map (·.type) = some 28 := by kernel_rfl

/-- The door's own heap meets the condition. -/
theorem door_met (os : Os) (args : Array Value) : laidMetH Eddg.prog laidList ((World.doorLaid Eddg.prog 32 os).forCall (fun _ _ => 0) ⟨#[], args, []⟩).memory :=
  laidMetH_of_parts3 (fuel := 8) (laidMet_of_run' 8 (by kernel_rfl) (by kernel_rfl)) (by kernel_rfl) (by kernel_rfl)

/-- What the condition gives the walk: MaxStringLen's cell. -/
theorem of_laid {W : World} (h : laidMetH Eddg.prog laidList W) : W.cell? ⟨0, 0, none⟩ = some (.int .i64 2147483647) := by
  rw [MakeChecks.laidMetH_plain _ _ _ (by kernel_rfl)] at h
  obtain ⟨ps, ⟨g0, t0, cs0, f0, p0, q0, _, _, _, _, ⟨g1, t1, cs1, f1, p1, q1, hg1, ht1, hv1, hd1, _, _⟩, _⟩, _, _⟩ := h
  have hg1' : Eddg.prog.globalNamed nMax = some g1 := hg1
  obtain rfl := Option.some.inj (gMax.symm.trans hg1')
  obtain rfl := Option.some.inj (tMax.symm.trans ht1)
  obtain ⟨k, e1, e2, _⟩ := DataW.trod_int Eddg.underlying3 hd1
  have hc := World.var?_cell hg1 hv1 0
  rw [hc]
  obtain ⟨l⟩ := cs1
  simp only at e1
  subst e1
  simp only [Prod.mk.injEq] at e2
  have hk : Rows.laid_github_com_d5_tengo_v2_MaxStringLen = (DataW.lit (.int .i64 k) : DataW Unit) := e2.1
  simp only [Rows.laid_github_com_d5_tengo_v2_MaxStringLen, DataW.lit.injEq, Lit.int.injEq, true_and] at hk
  subst hk
  rfl

/-- What open_ints gives of an argument, as the walk wants it. -/
theorem lies_of_ints {W : World} {a : Addr} {len cap : Nat} {zs : List Int} (hl : len ≤ zs.length) (hc : ∀ i, i < zs.length → W.cell? (a.add i) = some (.int .u8 (zs.getD i 0))) : Lies W (.slice (some a) len cap) (zs.take len) := by
  have hlen : (zs.take len).length = len := by simp; omega
  refine Or.inr ⟨a, cap, by rw [hlen], fun i hi => ?_⟩
  rw [hlen] at hi
  rw [hc i (by omega)]
  simp [List.getD, hi]

set_option maxRecDepth 100000 in
theorem lifted (os : Os) (started : os.Started) (H : Type) (enc : TypeId × Value → H) :
    ReturnsInHanded {} Eddg.checked os 3 .any (fun w args => (Rows.fnPPWriteRuneCaseTableSpec.pre enc Eddg.prog Eddg.f3 [] false w args ∧ laidMetH Eddg.prog laidList w) ∧ sizedMet enc Eddg.prog Eddg.f3 (OpenSpec.ofChange Rows.fnPPWriteRuneCaseTableSpec) false w args)
      (Rows.fnPPWriteRuneCaseTableSpec.post enc Eddg.prog Eddg.f3 false true false false) := by
  refine returnsInHanded_of_change_and (C := Eddg.checked) (X := fun w _ => laidMetH Eddg.prog laidList w) (fun _ _ _ hh h => h.of_heap hh) own started (by kernel_rfl) Eddg.func3
    (ChangeSpec.witness_shaped (enc := enc) (C := Eddg.checked) (os := os) (X := fun w _ => laidMetH Eddg.prog laidList w) false (World.doorLaid Eddg.prog 32 os) #[.slice none 0 0, .int .i32 0] 8 rfl (World.shaped_of_RefB (by kernel_rfl) (by kernel_rfl)) (by kernel_rfl) (by kernel_rfl) (by kernel_rfl) (door_met os _)) ?_
  intro W base args ds gs before hval0 hW _ _ hL _
  have hval : ∀ (j : Nat) t v, Eddg.f3.params[j]? = some t → args[j]? = some v → Value.okWide Eddg.prog W .any base t v := hval0
  have hW' := hW
  obtain ⟨p, q, hA0, hV0, rfl, _, _⟩ := hW
  have hA : DataW.TrodAll enc Eddg.prog W 0 (fun _ => true) true Eddg.f3.params.toList args.toList ds p := hA0
  have hV : DataW.TrodVars enc Eddg.prog W (fun _ => true) [nMax, nErr] gs q := hV0
  rw [Eddg.params3] at hA hval
  obtain ⟨v0, v1, d0, d1, p0, p1, rfl, rfl, rfl, h0, h1⟩ := trodAll_two hA
  -- the two variables
  obtain ⟨g0, t0, cs0, f0, e0, q0, g1, t1, cs1, f1, e1, q1, rfl, hg0, ht0, hv0, hd0, hg1, ht1, hv1, hd1, rfl⟩ := trodVars_two hV
  obtain rfl := Option.some.inj (gMax.symm.trans hg0)
  obtain rfl := Option.some.inj (tMax.symm.trans ht0)
  obtain rfl := Option.some.inj (gErr.symm.trans hg1)
  obtain rfl := Option.some.inj (tErr.symm.trans ht1)
  obtain ⟨o1, rfl, ho1, rfl, rfl, _⟩ := token_of hg1 Eddg.underlying28 hv1 hd1
  obtain ⟨k, hcs0, he0, hk⟩ := DataW.trod_int Eddg.underlying3 hd0
  simp only [Prod.mk.injEq] at he0
  obtain ⟨rfl, rfl⟩ := he0
  obtain rfl : cs0 = #[.int .i64 k] := by cases cs0; simp_all
  -- the arguments
  obtain ⟨r, rfl, rfl, rfl, wr1⟩ := open_int Eddg.underlying21 (hval 1 21 v1 rfl rfl) h1
  have hr := bounds_i32 wr1
  have hg := of_laid hL
  have hlt : ∀ x ∈ p0, x.block < W.heap.size := fun x hx => by simpa using hW'.lt x (by simp [hx])
  have hz0 : 0 < W.heap.size := World.block_lt_of_cell? W ⟨0, 0, none⟩ hg
  have hz1 : 1 < W.heap.size := World.block_lt_of_cell? W ⟨1, 0, none⟩ ((World.var?_cell hg1 hv1 0).trans rfl)
  have hlies : ∃ zs, Lies W v0 zs := by
    obtain ⟨ao, len, cap, rfl⟩ := okWide_slice Eddg.underlying22 (hval 0 22 v0 rfl rfl)
    obtain ⟨fuel, hf⟩ := h0
    rcases open_ints Eddg.underlying22 Eddg.underlying5 cells5 hf with ⟨hcs, _⟩ | ⟨a, len', cap', zs, hcs, _, hl, _, hz, _, hcell, _⟩
    · simp [Value.cells] at hcs
      obtain ⟨rfl, rfl, rfl⟩ := hcs
      exact ⟨[], Or.inl ⟨rfl, rfl⟩⟩
    · simp [Value.cells] at hcs
      obtain ⟨rfl, rfl, rfl⟩ := hcs
      rw [if_pos rfl] at hz
      exact ⟨zs.take len, lies_of_ints (by omega) hcell⟩
  obtain ⟨zs, hlies⟩ := hlies
  refine (law_any v0 zs r W hr.2 hlies hg).mono fun e W' ⟨he, hb⟩ => ?_
  subst he
  refine ⟨_, rfl, _, _, _, [], p0 ++ [], [.cell 0 0, .cell 1 0], hW', ?_, ?_, ?_, hb.frame _, fun h => by cases h⟩
  · exact trodAll_mk1 (shut_bool Eddg.underlying4 _)
  · exact trodAll_mk2 (Below.trod laidOut (by kernel_rfl) (of_decide_eq_true (by kernel_rfl)) h0 hb hlt) (shut_int Eddg.underlying21 wr1)
  · exact ⟨0, 3, _, 1, [], _, hg0, ht0, var?_below hb hg0 hz0 hv0, trod_int_mk 0 Eddg.underlying3 hk, ⟨1, 28, _, 1, [], [], hg1, ht1, var?_below hb hg1 hz1 hv1, trod_held Eddg.underlying28 ho1 0, rfl, rfl⟩, rfl⟩

theorem row_holds : Rows.FnPPWriteRuneCaseTableSaid :=
  OpenClaim.holds_of_wide 3 Eddg.f3 rfl rfl rfl rfl rfl rfl rfl ⟨rfl, rfl, rfl, rfl, rfl⟩ rfl rfl rfl rfl rfl (by kernel_rfl) Eddg.func3 (by kernel_rfl)
    (of_decide_eq_true (by kernel_rfl)) (by unfold Func.isWrapper; first | (rw [if_pos (by decide +kernel)]; kernel_rfl) | (rw [if_neg (by decide +kernel)]; exact ⟨rfl, rfl⟩))
    (fun os started H enc _ => lifted os started H enc)

/-- ████ THE TIED CARD ████ -/
theorem card_holds : Rows.FnPPWriteRuneCaseTableCardSaid :=
  Claim7.holds_tied_plain_at .later [] [.called, .data] true Rows.fnPPWriteRuneCaseTableCard.stood.harness false
    row_holds (fun _ h => by cases h) (by kernel_rfl) (fun _ h => by cases h) fnPPWriteRuneCaseTable_row_tie rfl ⟨rfl, rfl⟩ (by kernel_rfl) rfl
    (fun f fn hf hfn => by
      obtain rfl : f = 3 := Option.some.inj ((show Eddg.prog.funcNamed Rows.fnPPWriteRuneCaseTableRow.func = some 3 by kernel_rfl).symm.trans hf) |>.symm
      obtain rfl : fn = Eddg.f3 := (Option.some.inj (Eddg.func3.symm.trans hfn)).symm
      exact ⟨by kernel_rfl, fun j t ht => by
        rw [Eddg.params3] at ht
        have hm : t ∈ [22, 21] := by simpa using Array.mem_of_getElem? ht
        have hall : ([22, 21].all fun u => !Eddg.prog.wantsStandIn u) = true := by kernel_rfl
        exact (show Eddg.prog.wantsStandIn t = false by simpa using List.all_eq_true.1 hall t hm)⟩)
    (by kernel_rfl)
#print axioms card_holds
end Go.Proofs.YoeddwDoor
