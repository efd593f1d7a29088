/-
  The law FnPPWriteRuneCaseTable, walked out of its callees' contracts.
-/
import Derived.Test.YoeddwDoorModel
import Derived.Test.YoeddwDoorClone
import Derived.Test.YoeddwDoorWriteHi
import Derived.WalkKit
import Derived.Deep.QuietTactic
import Derived.BigQuiet
import Derived.WalkSmall
import Derived.WalkLawsBesides
namespace Go.Proofs.YoeddwDoor
open Go.RowKit

theorem PP.new (w : World) (v : Value) : PP (w.alloc (.cells (ppZero.setIfInBounds 0 v) 45)) w.heap.size v := by
  refine ⟨_, heap_alloc_new w _, ?_⟩
  have : 0 < ppZero.size := by rw [ppZero_size]; decide
  simp [this]

theorem row_at {W : World} {base n g cap : Nat} {zs : List Int} (h : W.ownsRow base 5 1 (.slice (some ⟨g, 0, none⟩) n cap) n (byt zs)) (k : Nat) (hk : k < n) : W.cell? ⟨g, k, none⟩ = some (.int .u8 (zs.getD k 0)) := by
  have hl := h.1
  rw [byt_length] at hl
  rw [h.cellAt k (by omega)]
  simp [byt, List.getD, show k < zs.length by omega]

/-- What the two comparing loops read: the first copy; what was written; the table's four bytes. -/
structure Ready (w : World) (v1 v4 : Value) (zs : List Int) (r : Int) (eb : Nat) (c0 c1 c2 c3 : Int) (W : World) : Prop where
  one : W.ownsRow 0 5 1 v1 zs.length (byt zs)
  two : W.ownsRow 0 5 1 v4 (zs.length + (rb r).length) (byt (zs ++ rb r))
  enc : W.heap[eb]? = some (.cells #[.int .u8 c0, .int .u8 c1, .int .u8 c2, .int .u8 c3] 31 (0, 0))
  low : Below w.heap.size w W

theorem Ready.drewN {w W : World} {v1 v4 : Value} {zs : List Int} {r : Int} {eb : Nat} {c0 c1 c2 c3 : Int} (h : Ready w v1 v4 zs r eb c0 c1 c2 c3 W) (m : Nat) : Ready w v1 v4 zs r eb c0 c1 c2 c3 (W.drewN m) :=
  ⟨h.one, h.two, h.enc, below_drewN h.low m⟩

/-- The first loop's two bytes are one. -/
theorem Ready.same {w W : World} {ao1 : Option Addr} {cap1 g4 cap4 : Nat} {zs : List Int} {r : Int} {eb : Nat} {c0 c1 c2 c3 : Int} (h : Ready w (.slice ao1 zs.length cap1) (.slice (some ⟨g4, 0, none⟩) (zs.length + (rb r).length) cap4) zs r eb c0 c1 c2 c3 W)
    (k : Nat) (hk : k < zs.length) : ∃ g1 z, ao1 = some ⟨g1, 0, none⟩ ∧ W.cell? ⟨g1, k, none⟩ = some (.int .u8 z) ∧ W.cell? ⟨g4, k, none⟩ = some (.int .u8 z) := by
  obtain ⟨g1, rfl⟩ := own_some h.one (by have := own_le h.one; omega)
  refine ⟨g1, _, rfl, row_at h.one k hk, ?_⟩
  rw [row_at h.two k (by omega)]
  simp [List.getD, List.getElem?_append_left hk]

/-- The second loop's two bytes are one. -/
theorem Ready.tail {w W : World} {v1 : Value} {g4 cap4 : Nat} {zs : List Int} {r : Int} {eb : Nat} {c0 c1 c2 c3 : Int} (h : Ready w v1 (.slice (some ⟨g4, 0, none⟩) (zs.length + (rb r).length) cap4) zs r eb c0 c1 c2 c3 W)
    (ht : [c0, c1, c2, c3].take (rb r).length = rb r) (j : Nat) (hj : j < (rb r).length) : ∃ z, W.cell? ⟨g4, zs.length + j, none⟩ = some (.int .u8 z) ∧ W.cell? ⟨eb, j, none⟩ = some (.int .u8 z) := by
  have hl := rb_length r
  refine ⟨[c0, c1, c2, c3].getD j 0, ?_, ?_⟩
  · rw [row_at h.two (zs.length + j) (by omega)]
    have e : (rb r)[j]? = [c0, c1, c2, c3][j]? := by rw [← ht, List.getElem?_take, if_pos hj]
    simp only [List.getD, List.getElem?_append_right (Nat.le_add_right zs.length j), Nat.add_sub_cancel_left, e]
  · rw [cell_of_row W eb j _ 31 (0, 0) h.enc]
    match j, (by omega : j < 4) with
    | 0, _ => rfl
    | 1, _ => rfl
    | 2, _ => rfl
    | 3, _ => rfl

/-- A long slice: the law returns at once. -/
theorem law_long (ao : Option Addr) (n cap : Nat) (r : Int) (w : World) (h : 1048572 < n) :
    Calls Eddg.prog 3 #[.slice ao n cap, .int .i32 r] w fun e w' => e = .returned (.bool true) ∧ Below w.heap.size w w' := by
  by_cases h2 : n ≤ 1048576
  · go_enter Eddg.func3, Eddg.ntmps3
    go_wp2_with (go_at_call 4; refine (bytes_yes _ _ _ _ h2 _).mono ?_; rintro e w' ⟨rfl, rfl⟩)
    go_ret
    exact ⟨rfl, Below.refl _ _⟩
  · go_enter Eddg.func3, Eddg.ntmps3
    go_wp2_with (go_at_call 4; refine (bytes_no _ _ _ _ (by omega) _).mono ?_; rintro e w' ⟨rfl, rfl⟩)
    go_ret
    exact ⟨rfl, Below.refl _ _⟩

set_option maxHeartbeats 1000000 in
theorem law_short (ao : Option Addr) (cap : Nat) (zs : List Int) (r : Int) (w : World) (h1 : r ≤ 2147483647) (hn : zs.length ≤ 1048572) (hL : Lies w (.slice ao zs.length cap) zs)
    (hg : w.cell? ⟨0, 0, none⟩ = some (.int .i64 2147483647)) :
    Calls Eddg.prog 3 #[.slice ao zs.length cap, .int .i32 r] w fun e w' => e = .returned (.bool true) ∧ Below w.heap.size w w' := by
  have hz0 : 0 < w.heap.size := World.block_lt_of_cell? w ⟨0, 0, none⟩ hg
  have HL := hid hL
  have HG := hid hg
  have hlb := rb_length r
  clear hL hg
  go_enter Eddg.func3, Eddg.ntmps3
  go_wp2_with fail
  refine (bytes_yes _ _ _ _ (by omega) _).mono ?_
  rintro e w' ⟨rfl, hw⟩
  obtain rfl := hw.symm
  go_wp2_with fail
  refine (clone_any _ zs _ HL.out (by omega)).mono ?_
  rintro e w1 ⟨v1, rfl, hown1, hB1⟩
  obtain ⟨ao1, cap1, hv1⟩ := own_shape hown1
  rw [hv1] at hown1 ⊢
  clear hv1
  have HO1 := hid hown1
  have HB1 := hid hB1
  have hs1 := hB1.size
  clear hown1 hB1
  go_wp2_with fail
  refine (clone_any _ zs _ (Lies.of_own HO1.out) (by omega)).mono ?_
  rintro e w2 ⟨v2, rfl, hown2, hB2⟩
  obtain ⟨ao2, cap2, hv2⟩ := own_shape hown2
  rw [hv2] at hown2 ⊢
  clear hv2
  have HO2 := hid hown2
  have HB2 := hid hB2
  have hs2 := hB2.size
  clear hown2 hB2
  go_wp2_with fail
  refine (newPP_any _ _ _ _).mono ?_
  rintro e w3 ⟨rfl, hw3⟩
  have HP3 : Hid (PP w3 w2.heap.size (.slice ao2 zs.length cap2)) := by rw [hw3]; exact PP.new _ _
  have HO3 : Hid (w3.ownsRow w1.heap.size 5 1 (.slice ao2 zs.length cap2) zs.length (byt zs)) := by rw [hw3]; exact HO2.out.alloc _
  have HB3 : Hid (Below w1.heap.size w1 w3) := by rw [hw3]; exact HB2.out.alloc hs2 _
  have HG3 : Hid (w3.cell? ⟨0, 0, none⟩ = some (.int .i64 2147483647)) := by
    have a := HB3.out.cell (p := ⟨0, 0, none⟩) (by show 0 < _; omega)
    have b := HB1.out.cell (p := ⟨0, 0, none⟩) hz0
    exact (a.trans b).trans HG.out
  clear hw3
  go_wp2_with fail
  refine (zzWrite_any w2.heap.size w1.heap.size zs.length _ zs r w3 h1 HP3.out HO3.out (by omega) HG3.out hs2).mono ?_
  rintro e w4 ⟨rfl, v4, hP4, hown4, hB4⟩
  obtain ⟨ao4, cap4, hv4⟩ := own_shape hown4
  rw [hv4] at hown4 hP4
  clear hv4
  obtain ⟨g4, hg4⟩ := own_some hown4 (by have := own_le hown4; omega)
  rw [hg4] at hown4 hP4
  clear hg4
  have HP4 := hid hP4
  have HO4 := hid hown4
  have HB4 : Hid (Below w1.heap.size w1 w4) := HB3.out.trans hB4
  clear hP4 hown4 hB4 HB3 HG3 HO3 HP3 HO2 HB2 HG HL
  go_wp2_with fail
  refine (model_any r h1 w4).mono ?_
  rintro e w5 ⟨c0, c1, c2, c3, rfl, htake, hB5⟩
  have HT := hid htake
  have hs5 := hB5.size
  have HP5 : Hid (PP w5 w2.heap.size (.slice (some ⟨g4, 0, none⟩) (zs.length + (rb r).length) cap4)) := HP4.out.block (hB5.block _ HP4.out.lt)
  have HO5 : Hid (w5.ownsRow w1.heap.size 5 1 (.slice (some ⟨g4, 0, none⟩) (zs.length + (rb r).length) cap4) (zs.length + (rb r).length) (byt (zs ++ rb r))) := own_below HO4.out hB5 (Nat.le_refl _)
  have HB5 : Hid (Below w1.heap.size w1 w5) := HB4.out.trans (hB5.mono HB4.out.size)
  clear htake hB5 HP4 HO4 HB4 hw
  go_wp2_with fail
  refine (ppBuf_any w2.heap.size _ _ (HP5.out.block (Below.heap_alloc _ _ _ HP5.out.lt)).cell).mono ?_
  rintro e w6 ⟨rfl, hw6⟩
  have HR : Hid (Ready w (.slice ao1 zs.length cap1) (.slice (some ⟨g4, 0, none⟩) (zs.length + (rb r).length) cap4) zs r w5.heap.size c0 c1 c2 c3 w6) := by
    rw [hw6]
    have a : Below w1.heap.size w1 (w5.alloc (.cells #[.int .u8 c0, .int .u8 c1, .int .u8 c2, .int .u8 c3] 31)) := HB5.out.alloc HB5.out.size _
    exact ⟨own_mono (own_below HO1.out a (Nat.le_refl _)) (Nat.zero_le _), own_mono (HO5.out.alloc _) (Nat.zero_le _), heap_alloc_new w5 _, HB1.out.trans (a.mono hs1)⟩
  clear hw6 HP5 HO5 HB5 HO1 HB1
  go_wp2_with fail
  go_loopw [12] (fun i wr => ∃ k : Nat, k ≤ zs.length ∧ i = .int .i64 k ∧ Ready w (.slice ao1 zs.length cap1) (.slice (some ⟨g4, 0, none⟩) (zs.length + (rb r).length) cap4) zs r w5.heap.size c0 c1 c2 c3 wr) (fun i _ => zs.length - (intOf i).toNat)
  case atStart => exact ⟨0, Nat.zero_le _, rfl, HR.out⟩
  case round =>
    clear HR
    obtain ⟨k, hk, rfl, hR⟩ := hrel
    by_cases hlt : k < zs.length
    · obtain ⟨g1, z, rfl, hx, hy⟩ := hR.same k hlt
      have hi1 : (k : Int) < (zs.length : Int) := by omega
      have hi2 : (k : Int) < ((zs.length + (rb r).length : Nat) : Int) := by omega
      have HR := hid hR
      clear hR
      go_wp2_with fail
      go_quiet (fail)
      go_wp2_with fail
      go_roundw
      case rel => exact ⟨k + 1, by omega, by go_num, HR.out.drewN _⟩
      case measure => simp [intOf]; omega
    · have HR := hid hR
      clear hR
      go_wp2_with fail
      go_loopw [13] (fun i wq => ∃ j : Nat, j ≤ (rb r).length ∧ i = .int .i64 j ∧ Ready w (.slice ao1 zs.length cap1) (.slice (some ⟨g4, 0, none⟩) (zs.length + (rb r).length) cap4) zs r w5.heap.size c0 c1 c2 c3 wq) (fun i _ => (rb r).length - (intOf i).toNat)
      case atStart => exact ⟨0, Nat.zero_le _, rfl, HR.out⟩
      case round =>
        clear HR
        obtain ⟨j, hj, rfl, hR⟩ := hrel
        by_cases hlt2 : j < (rb r).length
        · obtain ⟨z, hx, hy⟩ := hR.tail HT.out j hlt2
          have hi1 : (zs.length : Int) + (j : Int) < ((zs.length + (rb r).length : Nat) : Int) := by omega
          have hi2 : (j : Int) < 4 := by omega
          have HR := hid hR
          clear hR
          go_wp2_with fail
          go_quiet (fail)
          go_wp2_with fail
          go_roundw
          case rel => exact ⟨j + 1, by omega, by go_num, HR.out.drewN _⟩
          case measure => simp [intOf]; omega
        · have hlow := hid hR.low
          clear hR
          go_wp2
          go_ret
          exact ⟨rfl, hlow.out⟩

/-- The law at every slice of bytes and every rune: true; nothing old has turned. -/
theorem law_any (v : Value) (zs : List Int) (r : Int) (w : World) (h1 : r ≤ 2147483647) (hL : Lies w v zs) (hg : w.cell? ⟨0, 0, none⟩ = some (.int .i64 2147483647)) :
    Calls Eddg.prog 3 #[v, .int .i32 r] w fun e w' => e = .returned (.bool true) ∧ Below w.heap.size w w' := by
  have hs : ∃ ao cap, v = .slice ao zs.length cap := by
    rcases hL with ⟨rfl, rfl⟩ | ⟨a, cap, rfl, _⟩
    · exact ⟨_, _, rfl⟩
    · exact ⟨_, _, rfl⟩
  obtain ⟨ao, cap, rfl⟩ := hs
  by_cases h : zs.length ≤ 1048572
  · exact law_short ao cap zs r w h1 h hL hg
  · exact law_long ao zs.length cap r w (by omega)
#print axioms law_any
end Go.Proofs.YoeddwDoor
