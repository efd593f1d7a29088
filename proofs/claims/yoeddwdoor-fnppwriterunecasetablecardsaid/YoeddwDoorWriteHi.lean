/-
  (*fmtbuf).WriteRune at a rune from 128 on: the loop that makes room, EncodeRune, the cut.
-/
import Derived.Test.YoeddwDoorWrite
import Derived.WalkKit
import Derived.Deep.QuietTactic
import Derived.BigQuiet
import Derived.WalkSmall
namespace Go.Proofs.YoeddwDoor
open Go.RowKit

/-- A slice value's length: for the loop's measure. -/
def lenIn : Value → Nat | .slice _ n _ => n | _ => 0

set_option maxHeartbeats 1000000 in
theorem write_hi (pb base n cap : Nat) (ao : Option Addr) (xs : List Int) (r : Int) (w : World) (h : 128 ≤ r) (h1 : r ≤ 2147483647) (hP : PP w pb (.slice ao n cap)) (hown : w.ownsRow base 5 1 (.slice ao n cap) n (byt xs))
    (hn : n ≤ 1048576) (hg : w.cell? ⟨0, 0, none⟩ = some (.int .i64 2147483647)) (hbase : base ≤ pb) :
    Calls Eddg.prog 11 #[.pointer (some ⟨pb, 0, none⟩), .int .i32 r] w fun e w' => e = .returned (.tuple #[]) ∧ ∃ v', PP w' pb v' ∧ w'.ownsRow base 5 1 v' (n + (rb r).length) (byt (xs ++ rb r)) ∧ Below base w w' := by
  obtain ⟨i0, hi, hz0, hz1, hz2⟩ := info_parts info5'
  have hc := hP.cell
  have hfz := hP.free
  have hcb := cnt_bounds r
  go_enter Eddg.func11, Eddg.ntmps11
  go_wp2_with fail
  go_quiet ((go_at_call 12; exact Calls.quiet_of_same (runeLen_any _ _)))
  go_wp2_with fail
  go_loopw [4] (fun b2 wr => ∃ k : Nat, ∃ ao2 : Option Addr, ∃ cap2 : Nat, k ≤ 4 ∧ b2 = .slice ao2 (n + k) cap2 ∧ wr.ownsRow base 5 1 (.slice ao2 (n + k) cap2) (n + k) (byt xs ++ List.replicate k (.int .u8 0)) ∧ PP wr pb (.slice ao n cap) ∧ Below base w wr)
    (fun b2 _ => n + 4 - lenIn b2)
  case atStart =>
    have hown0 : (w.drewN nq).ownsRow base 5 1 (.slice ao n cap) n (byt xs) := hown
    exact ⟨0, ao, cap, by omega, rfl, by simpa using hown0, hP, below_drewN (Below.refl base w) nq⟩
  case round =>
    clear hown hc hfz hP
    obtain ⟨k, ao2, cap2, hk, rfl, hownr, hPr, hBr⟩ := hrel
    have hle := own_le hownr
    have hsz : base ≤ wr.heap.size := by have := hPr.lt; omega
    by_cases hlt : cap2 < n + 4
    · have hk4 : k < 4 := by omega
      go_wp2_with (at_builtin; refine wpList_append_own _ rfl _ _ 35 rfl base 5 i0 (.int .u8 0) 1 1 Eddg.underlying35 hi hz0 hz1 hz2 rfl (by decide) _ (n + k) (byt xs ++ List.replicate k (.int .u8 0)) rfl ?c0 ⟨wr.heap.size, 0, none⟩ 1 1 [.int .u8 0] rfl rfl ?c1 ?c2 ?c3 ?c4 ?c5 ?_)
      case c0 => exact World.ownsRow.alloc hownr _
      case c1 => exact cell_new wr _
      case c2 => exact one_new _
      case c3 => unfold maxLen; omega
      case c4 => omega
      case c5 => simp; omega
      intro v' w1 hown1 hgrow1 _
      obtain ⟨ao3, cap3, hv⟩ := own_shape hown1
      subst hv
      have hst := step_append hPr hownr hsz hgrow1
      have hB1 : Below base w w1 := hBr.trans hst.2
      have hown2 : w1.ownsRow base 5 1 (.slice ao3 (n + (k + 1)) cap3) (n + (k + 1)) (byt xs ++ List.replicate (k + 1) (.int .u8 0)) := by
        rw [List.replicate_succ']; exact hown1
      clear hown1 hgrow1 hownr hPr hBr hi hz0 hz1 hz2
      go_wp2
      go_roundw
      case rel => exact ⟨k + 1, ao3, cap3, by omega, rfl, hown2, hst.1, hB1⟩
      case measure => simp [lenIn]; omega
    · have hge : n + 4 ≤ cap2 := by omega
      obtain ⟨g, rfl⟩ := own_some hownr (by omega)
      have hlb := rb_length r
      have hnl : (byt xs).length = n := by have := hownr.1; simp at this; omega
      have hlaid := own_laid hownr hnl (news := byt (rb r)) (by rw [byt_length]; omega)
      rw [byt_length] at hlaid
      have hgr := setCells_grown g (byt (rb r)) n wr
      have hB1 : Below base w (wr.setCells g n (byt (rb r))) := hBr.grown hgr hsz (fun j hj => by cases hj; exact (hownr.lt g rfl).1)
      have hP1 : PP (wr.setCells g n (byt (rb r))) pb (.slice ao n cap) := hPr.grown hgr (hPr.ne hownr)
      have hfin := step_store hP1 hlaid hB1 hbase
      have hroom := own_room hownr
      have hfro := hownr.frozenAt
      have HF := hid hfin
      have hc1 := hP1.cell
      have hf1 := hP1.free
      clear hfin hB1 hgr hlaid
      go_wp2_with fail
      refine (encode_any g n 4 (cap2 - n) r h h1 _ (Nat.le_refl _) (fun j hj => hroom (n + j) (by omega)) (fun j hj => hfro (n + j))).mono ?_
      rintro e w2 ⟨rfl, rfl⟩
      go_wp2
      go_end0
      exact ⟨rfl, _, HF.out.1, by have := HF.out.2.1; simpa [byt] using this, HF.out.2.2⟩

/-- What WriteRune leaves behind: the field holds a row that the call owns: the old bytes, then the rune's; nothing below 'base' has turned. -/
def Wrote (w : World) (pb base n : Nat) (xs : List Int) (r : Int) (w' : World) : Prop :=
  ∃ v', PP w' pb v' ∧ w'.ownsRow base 5 1 v' (n + (rb r).length) (byt (xs ++ rb r)) ∧ Below base w w'

/-- (*fmtbuf).WriteRune at every rune. -/
theorem write_any (pb base n : Nat) (v : Value) (xs : List Int) (r : Int) (w : World) (h1 : r ≤ 2147483647) (hP : PP w pb v) (hown : w.ownsRow base 5 1 v n (byt xs))
    (hn : n ≤ 1048576) (hg : w.cell? ⟨0, 0, none⟩ = some (.int .i64 2147483647)) (hbase : base ≤ pb) :
    Calls Eddg.prog 11 #[.pointer (some ⟨pb, 0, none⟩), .int .i32 r] w fun e w' => e = .returned (.tuple #[]) ∧ Wrote w pb base n xs r w' := by
  obtain ⟨ao, cap, rfl⟩ := own_shape hown
  by_cases h : r < 0
  · refine (write_neg pb base n cap ao xs r w h hP hown hn hg hbase).mono fun e w' ⟨he, hw⟩ => ⟨he, ?_⟩
    rw [Wrote, rb_neg h]; exact hw
  · by_cases h2 : r ≤ 127
    · refine (write_one pb base n cap ao xs r w (by omega) h2 hP hown hn hg hbase).mono fun e w' ⟨he, hw⟩ => ⟨he, ?_⟩
      rw [Wrote, rb_one (by omega) h2]; exact hw
    · exact write_hi pb base n cap ao xs r w (by omega) h1 hP hown hn hg hbase

/-- (*pp).WriteRune. -/
theorem ppWrite_any (pb base n : Nat) (v : Value) (xs : List Int) (r : Int) (w : World) (h1 : r ≤ 2147483647) (hP : PP w pb v) (hown : w.ownsRow base 5 1 v n (byt xs))
    (hn : n ≤ 1048576) (hg : w.cell? ⟨0, 0, none⟩ = some (.int .i64 2147483647)) (hbase : base ≤ pb) :
    Calls Eddg.prog 10 #[.pointer (some ⟨pb, 0, none⟩), .int .i32 r] w fun e w' => e = .returned (.tuple #[.int .i64 (cnt r), .nilIface]) ∧ Wrote w pb base n xs r w' := by
  have HC := hid (write_any pb base n v xs r w h1 hP hown hn hg hbase)
  clear hP hown hg
  go_enter Eddg.func10, Eddg.ntmps10
  go_wp2_with (first | (go_at_call 11; refine HC.out.mono ?_; rintro e w1 ⟨rfl, hw⟩; have HW := hid hw; clear hw) | (go_at_call 12; refine (runeLen_any _ _).mono ?_; rintro e w2 ⟨rfl, rfl⟩))
  go_ret2
  exact ⟨rfl, HW.out⟩

/-- zzexport.go: ZZppWriteRune. -/
theorem zzWrite_any (pb base n : Nat) (v : Value) (xs : List Int) (r : Int) (w : World) (h1 : r ≤ 2147483647) (hP : PP w pb v) (hown : w.ownsRow base 5 1 v n (byt xs))
    (hn : n ≤ 1048576) (hg : w.cell? ⟨0, 0, none⟩ = some (.int .i64 2147483647)) (hbase : base ≤ pb) :
    Calls Eddg.prog 7 #[.pointer (some ⟨pb, 0, none⟩), .int .i32 r] w fun e w' => e = .returned (.tuple #[.int .i64 (cnt r), .nilIface]) ∧ Wrote w pb base n xs r w' := by
  have HC := hid (ppWrite_any pb base n v xs r w h1 hP hown hn hg hbase)
  clear hP hown hg
  go_enter Eddg.func7, Eddg.ntmps7
  go_wp2_with (go_at_call 10; refine HC.out.mono ?_; rintro e w1 ⟨rfl, hw⟩; have HW := hid hw; clear hw)
  go_ret2
  exact ⟨rfl, HW.out⟩
#print axioms zzWrite_any
end Go.Proofs.YoeddwDoor
