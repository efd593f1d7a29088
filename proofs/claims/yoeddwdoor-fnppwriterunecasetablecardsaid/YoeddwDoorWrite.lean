/-
  (*fmtbuf).WriteRune.
-/
import Derived.Test.YoeddwDoorHeap
import Derived.WalkKit
import Derived.Deep.QuietTactic
import Derived.BigQuiet
import Derived.WalkSmall
namespace Go.Proofs.YoeddwDoor
open Go.RowKit

theorem info5' : (Eddg.prog.info? 5).map (fun i => (i.zero, i.size, i.bytes)) = some (some (.int .u8 0), 1, 1) := by kernel_rfl

set_option maxHeartbeats 1000000 in
theorem write_neg (pb base n cap : Nat) (ao : Option Addr) (xs : List Int) (r : Int) (w : World) (h : r < 0) (hP : PP w pb (.slice ao n cap)) (hown : w.ownsRow base 5 1 (.slice ao n cap) n (byt xs))
    (hn : n ≤ 1048576) (hg : w.cell? ⟨0, 0, none⟩ = some (.int .i64 2147483647)) (hbase : base ≤ pb) :
    Calls Eddg.prog 11 #[.pointer (some ⟨pb, 0, none⟩), .int .i32 r] w fun e w' => e = .returned (.tuple #[]) ∧ ∃ v', PP w' pb v' ∧ w'.ownsRow base 5 1 v' (n + 1) (byt (xs ++ [r % 256])) ∧ Below base w w' := by
  obtain ⟨i0, hi, hz0, hz1, hz2⟩ := info_parts info5'
  have hc := hP.cell
  have hfz := hP.free
  have hcb := cnt_bounds r
  go_enter Eddg.func11, Eddg.ntmps11
  go_wp2_with fail
  go_quiet ((go_at_call 12; exact Calls.quiet_of_same (runeLen_any _ _)))
  go_wp2_with (at_builtin; refine wpList_append_own _ rfl _ _ 35 rfl base 5 i0 (.int .u8 0) 1 1 Eddg.underlying35 hi hz0 hz1 hz2 rfl (by decide) _ n (byt xs) rfl ?c0 ⟨w.heap.size, 0, none⟩ 1 1 [.int .u8 (r % 256)] rfl rfl ?c1 ?c2 ?c3 ?c4 ?c5 ?_)
  case c0 => exact World.ownsRow.alloc hown _
  case c1 => exact cell_new (w.drewN nq) _
  case c2 => exact one_new _
  case c3 => unfold maxLen; omega
  case c4 => omega
  case c5 => have := hP.lt; simp; omega
  intro v' w1 hown1 hgrow1 _
  obtain ⟨ao1, cap1, hv⟩ := own_shape hown1
  subst hv
  have hst := step_append (w := w.drewN nq) hP hown (by have := hP.lt; simp; omega) hgrow1
  have hB1 : Below base w w1 := (below_drewN (Below.refl base w) nq).trans hst.2
  have hc1 := hst.1.cell
  have hf1 := hst.1.free
  have hfin := step_store hst.1 hown1 hB1 hbase
  have HF : Hid (PP (w1.setCell ⟨pb, 0, none⟩ (.slice ao1 (n + 1) cap1)) pb (.slice ao1 (n + 1) cap1) ∧ (w1.setCell ⟨pb, 0, none⟩ (.slice ao1 (n + 1) cap1)).ownsRow base 5 1 (.slice ao1 (n + 1) cap1) (n + 1) (byt xs ++ [Value.int IntKind.u8 (r % 256)]) ∧ Below base w (w1.setCell ⟨pb, 0, none⟩ (.slice ao1 (n + 1) cap1))) := hfin
  clear hfin hB1 hst hown1 hgrow1 hown hP hc hfz
  go_wp2
  refine bodyPost_ret (results_none rfl _ _ _) rfl ?_
  exact ⟨rfl, _, HF.out.1, by simpa [byt] using HF.out.2.1, HF.out.2.2⟩

set_option maxHeartbeats 1000000 in
theorem write_one (pb base n cap : Nat) (ao : Option Addr) (xs : List Int) (r : Int) (w : World) (h : 0 ≤ r) (h1 : r ≤ 127) (hP : PP w pb (.slice ao n cap)) (hown : w.ownsRow base 5 1 (.slice ao n cap) n (byt xs))
    (hn : n ≤ 1048576) (hg : w.cell? ⟨0, 0, none⟩ = some (.int .i64 2147483647)) (hbase : base ≤ pb) :
    Calls Eddg.prog 11 #[.pointer (some ⟨pb, 0, none⟩), .int .i32 r] w fun e w' => e = .returned (.tuple #[]) ∧ ∃ v', PP w' pb v' ∧ w'.ownsRow base 5 1 v' (n + 1) (byt (xs ++ [r])) ∧ Below base w w' := by
  obtain ⟨i0, hi, hz0, hz1, hz2⟩ := info_parts info5'
  have hc := hP.cell
  have hfz := hP.free
  have hcb := cnt_bounds r
  go_enter Eddg.func11, Eddg.ntmps11
  go_wp2_with fail
  go_quiet ((go_at_call 12; exact Calls.quiet_of_same (runeLen_any _ _)))
  go_wp2_with (at_builtin; refine wpList_append_own _ rfl _ _ 35 rfl base 5 i0 (.int .u8 0) 1 1 Eddg.underlying35 hi hz0 hz1 hz2 rfl (by decide) _ n (byt xs) rfl ?c0 ⟨w.heap.size, 0, none⟩ 1 1 [.int .u8 (r)] rfl rfl ?c1 ?c2 ?c3 ?c4 ?c5 ?_)
  case c0 => exact World.ownsRow.alloc hown _
  case c1 => exact cell_new (w.drewN nq) _
  case c2 => exact one_new _
  case c3 => unfold maxLen; omega
  case c4 => omega
  case c5 => have := hP.lt; simp; omega
  intro v' w1 hown1 hgrow1 _
  obtain ⟨ao1, cap1, hv⟩ := own_shape hown1
  subst hv
  have hst := step_append (w := w.drewN nq) hP hown (by have := hP.lt; simp; omega) hgrow1
  have hB1 : Below base w w1 := (below_drewN (Below.refl base w) nq).trans hst.2
  have hc1 := hst.1.cell
  have hf1 := hst.1.free
  have hfin := step_store hst.1 hown1 hB1 hbase
  have HF : Hid (PP (w1.setCell ⟨pb, 0, none⟩ (.slice ao1 (n + 1) cap1)) pb (.slice ao1 (n + 1) cap1) ∧ (w1.setCell ⟨pb, 0, none⟩ (.slice ao1 (n + 1) cap1)).ownsRow base 5 1 (.slice ao1 (n + 1) cap1) (n + 1) (byt xs ++ [Value.int IntKind.u8 (r)]) ∧ Below base w (w1.setCell ⟨pb, 0, none⟩ (.slice ao1 (n + 1) cap1))) := hfin
  clear hfin hB1 hst hown1 hgrow1 hown hP hc hfz
  go_wp2
  refine bodyPost_ret (results_none rfl _ _ _) rfl ?_
  exact ⟨rfl, _, HF.out.1, by simpa [byt] using HF.out.2.1, HF.out.2.2⟩

end Go.Proofs.YoeddwDoor
