/-
  zzClone: at nil; at a row of bytes.
-/
import Derived.Test.YoeddwDoorSmall
import Derived.WalkKit
import Derived.WalkSpells
import Derived.OpenShut
namespace Go.Proofs.YoeddwDoor
open Go.RowKit

theorem clone_nil (w : World) :
    Calls Eddg.prog 5 #[.slice none 0 0] w fun e w' => e = .returned (.slice none 0 0) ∧ w' = w := by
  have hq := fun (w : World) (a : Option Addr) (n c n' c' : Nat) => Lib.run_eql_slice_nil (P := Eddg.prog) w 22 5 a n c n' c' Eddg.underlying22
  go_enter Eddg.func5, Eddg.ntmps5
  go_wp2
  go_ret
  exact ⟨rfl, rfl⟩

/-- What the copying has come to behind k rounds: the first k numbers, then noughts. -/
def part (zs : List Int) (len k : Nat) : List Value := byt (zs.take k) ++ List.replicate (len - k) (.int .u8 0)
theorem part_zero (zs : List Int) (len : Nat) : part zs len 0 = List.replicate len (.int .u8 0) := by simp [part, byt]
theorem part_full (zs : List Int) (len : Nat) (h : zs.length = len) : part zs len len = byt zs := by
  simp [part, ← h]
theorem part_set (zs : List Int) (len k : Nat) (h : zs.length = len) (hk : k < len) : (part zs len k).set k (.int .u8 (zs.getD k 0)) = part zs len (k + 1) := by
  have hl : (byt (zs.take k)).length = k := by simp [byt]; omega
  have e : len - k = (len - (k + 1)) + 1 := by omega
  unfold part
  rw [e, List.replicate_succ, List.set_append, if_neg (by omega), hl, Nat.sub_self, List.set_cons_zero]
  rw [List.take_succ_eq_append_getElem (by omega : k < zs.length)]
  have g : zs.getD k 0 = zs[k] := by simp [List.getD, show k < zs.length by omega]
  rw [g]
  simp only [byt, List.map_append, List.map_cons, List.map_nil, List.append_assoc, List.cons_append, List.nil_append]

set_option maxHeartbeats 400000 in
theorem clone_at (b off len cap : Nat) (zs : List Int) (w : World) (hz : zs.length = len) (hlen : len ≤ 1048576)
    (hc : ∀ i, i < len → w.cell? ⟨b, off + i, none⟩ = some (.int .u8 (zs.getD i 0))) (hb : b < w.heap.size) :
    Calls Eddg.prog 5 #[.slice (some ⟨b, off, none⟩) len cap] w fun e w' => e = .returned (.slice (some ⟨w.heap.size, 0, none⟩) len len) ∧
      w'.ownsRow w.heap.size 5 1 (.slice (some ⟨w.heap.size, 0, none⟩) len len) len (byt zs) ∧ Below w.heap.size w w' := by
  have hq := fun (w : World) (a : Option Addr) (n c n' c' : Nat) => Lib.run_eql_slice_nil (P := Eddg.prog) w 22 5 a n c n' c' Eddg.underlying22
  obtain ⟨i0, hi, hz0, hz1, hz2⟩ := info_parts info5
  go_enter Eddg.func5, Eddg.ntmps5
  go_wp2_with (first | (at_make; refine wpList_make_full _ rfl _ _ 22 rfl w.heap.size 5 i0 (.int .u8 0) 1 Eddg.underlying22 hi hz0 hz1 _ _ _ _ len rfl rfl (by omega) (by omega) ?b1 ?b2 ?b3 ?_) | go_in)
  case b1 => rw [hz2]; omega
  case b2 => unfold maxLen; omega
  case b3 => exact Nat.le_refl _
  intro w1 hown hgrow
  go_wp2
  have hB1 : Below w.heap.size w w1 := (Below.refl _ _).grown hgrow (Nat.le_refl _) (fun k hk => by cases hk)
  rw [toList_madeCells_one, ← part_zero zs len] at hown
  go_loopw [4] (fun i wr => ∃ k : Nat, k ≤ len ∧ i = .int .i64 k ∧ wr.ownsRow w.heap.size 5 1 (.slice (some ⟨w.heap.size, 0, none⟩) len len) len (part zs len k) ∧ Below w.heap.size w wr) (fun i _ => len - (intOf i).toNat)
  case atStart => exact ⟨0, Nat.zero_le _, rfl, hown, hB1⟩
  case round =>
    clear hown hgrow hB1
    obtain ⟨k, hk, rfl, hownr, hBr⟩ := hrel
    by_cases hlt : k < len
    · obtain ⟨z, hzk⟩ : ∃ z, z = zs.getD k 0 := ⟨_, rfl⟩
      have hcx : wr.cell? ⟨b, off + k, none⟩ = some (.int .u8 z) := by rw [hzk]; exact (hBr.cell (p := ⟨b, off + k, none⟩) hb).trans (hc k hlt)
      obtain ⟨u, hcu⟩ : ∃ u, wr.cell? ⟨w.heap.size, k, none⟩ = some u := by
        have h1 := hownr.cellAt k (by omega)
        have h2 : (part zs len k).length = len := by have := hownr.1; omega
        rw [List.getElem?_eq_getElem (by omega)] at h1
        exact ⟨_, h1⟩
      have hfu := hownr.frozenAt k
      have hst := (hownr.stored k (.int .u8 z)).1
      have hst' : (wr.setCell ⟨w.heap.size, k, none⟩ (.int .u8 z)).ownsRow w.heap.size 5 1 (.slice (some ⟨w.heap.size, 0, none⟩) len len) len (part zs len (k + 1)) := by
        rw [hzk, part_set zs len k hz hlt, ← hzk] at hst; exact hst
      have hB' : Below w.heap.size w (wr.setCell ⟨w.heap.size, k, none⟩ (.int .u8 z)) := hBr.setCell (Nat.le_refl _) _
      have HS : Hid ((wr.setCell ⟨w.heap.size, k, none⟩ (.int .u8 z)).ownsRow w.heap.size 5 1 (.slice (some ⟨w.heap.size, 0, none⟩) len len) len (part zs len (k + 1))) := hst'
      have HB : Hid (Below w.heap.size w (wr.setCell ⟨w.heap.size, k, none⟩ (.int .u8 z))) := hB'
      clear hst hst' hB' hzk hownr hBr hc hi hz0 hz1 hz2 hq
      go_wp2
      go_roundw
      case rel => exact ⟨k + 1, by omega, by go_num, HS.out, HB.out⟩
      case measure => simp [intOf]; omega
    · have hkl : k = len := by omega
      subst hkl
      clear hc hi hz0 hz1 hz2 hq
      rw [part_full zs k hz] at hownr
      go_wp2
      go_ret
      exact ⟨rfl, hownr, hBr⟩

set_option maxHeartbeats 400000 in
/-- .. at an empty slice that is not nil: of its address nothing is known. -/
theorem clone_empty (a : Addr) (cap : Nat) (w : World) :
    Calls Eddg.prog 5 #[.slice (some a) 0 cap] w fun e w' => e = .returned (.slice (some ⟨w.heap.size, 0, none⟩) 0 0) ∧
      w'.ownsRow w.heap.size 5 1 (.slice (some ⟨w.heap.size, 0, none⟩) 0 0) 0 (byt []) ∧ Below w.heap.size w w' := by
  have hq := fun (w : World) (a : Option Addr) (n c n' c' : Nat) => Lib.run_eql_slice_nil (P := Eddg.prog) w 22 5 a n c n' c' Eddg.underlying22
  obtain ⟨i0, hi, hz0, hz1, hz2⟩ := info_parts info5
  go_enter Eddg.func5, Eddg.ntmps5
  go_wp2_with (first | (at_make; refine wpList_make_full _ rfl _ _ 22 rfl w.heap.size 5 i0 (.int .u8 0) 1 Eddg.underlying22 hi hz0 hz1 _ _ _ _ 0 rfl rfl (by omega) (by omega) ?b1 ?b2 ?b3 ?_) | go_in)
  case b1 => rw [hz2]; omega
  case b2 => unfold maxLen; omega
  case b3 => exact Nat.le_refl _
  intro w1 hown hgrow
  have hB1 : Below w.heap.size w w1 := (Below.refl _ _).grown hgrow (Nat.le_refl _) (fun k hk => by cases hk)
  have hown' : w1.ownsRow w.heap.size 5 1 (.slice (some ⟨w.heap.size, 0, none⟩) 0 0) 0 (byt []) := by
    rw [toList_madeCells_one] at hown
    exact hown
  clear hown hgrow hi hz0 hz1 hz2
  go_wp2
  refine wp_loop_rounds 1 ?_
  rw [rounds_succ]
  go_wp2
  go_ret
  exact ⟨rfl, hown', hB1⟩

/-- The slice value v reads as the bytes zs. -/
def Lies (w : World) (v : Value) (zs : List Int) : Prop :=
  (v = .slice none 0 0 ∧ zs = []) ∨ ∃ a cap, v = .slice (some a) zs.length cap ∧ ∀ i, i < zs.length → w.cell? (a.add i) = some (.int .u8 (zs.getD i 0))

/-- zzClone at whatever slice of bytes: a new row (or nil) that holds the same bytes; nothing old has turned. -/
theorem clone_any (v : Value) (zs : List Int) (w : World) (h : Lies w v zs) (hlen : zs.length ≤ 1048576) :
    Calls Eddg.prog 5 #[v] w fun e w' => ∃ v', e = .returned v' ∧ w'.ownsRow w.heap.size 5 1 v' zs.length (byt zs) ∧ Below w.heap.size w w' := by
  rcases h with ⟨rfl, rfl⟩ | ⟨a, cap, rfl, hc⟩
  · exact (clone_nil w).mono fun e w' ⟨he, hw⟩ => ⟨_, he, by rw [hw]; exact World.ownsRow_nil _ _ _ _, by rw [hw]; exact Below.refl _ _⟩
  · by_cases hz : zs = []
    · subst hz
      exact (clone_empty a cap w).mono fun e w' ⟨he, ho, hb⟩ => ⟨_, he, ho, hb⟩
    · have hp : 0 < zs.length := List.length_pos_iff.2 hz
      obtain ⟨b, off, rfl, hc'⟩ := ints_at hc hp
      have hb : b < w.heap.size := World.block_lt_of_cell? w ⟨b, off + 0, none⟩ (hc' 0 hp)
      exact (clone_at b off zs.length cap zs w rfl hlen hc' hb).mono fun e w' ⟨he, ho, hb⟩ => ⟨_, he, ho, hb⟩

/-- What the call owns lies so. -/
theorem Lies.of_own {w : World} {base : Nat} {v : Value} {n : Nat} {zs : List Int} (h : w.ownsRow base 5 1 v n (byt zs)) : Lies w v zs := by
  have hn : zs.length = n := by have := h.1; rw [byt_length] at this; omega
  subst hn
  rcases h.2 with ⟨rfl, hz⟩ | ⟨g, cap, cur, rfl, _⟩
  · exact Or.inl ⟨rfl, List.eq_nil_of_length_eq_zero hz⟩
  · refine Or.inr ⟨_, _, rfl, fun i hi => ?_⟩
    refine h.cells (g := g) rfl i _ ?_
    simp [byt, List.getD, hi]
#print axioms clone_any
end Go.Proofs.YoeddwDoor
