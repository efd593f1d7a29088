/-
  zzRuneModel, arm by arm.
-/
import Derived.Test.YoeddwDoorEnc
import Derived.WalkKit
namespace Go.Proofs.YoeddwDoor
open Go.RowKit

theorem wraps_u32 (n : Int) (h₀ : 0 ≤ n) (h₁ : n < 2 ^ 32) : IntKind.u32.wrap n = n := by rw [IntKind.wrap_u32]; omega
theorem and63 (x : Int) (h0 : 0 ≤ x) (h1 : x < 4294967296) : bits .and .u32 x 63 = x % 64 :=
  bits_mask .u32 32 (by decide) wraps_u32 6 (by decide) x h0 (by omega)
theorem and255 (x : Int) (h0 : 0 ≤ x) (h1 : x < 4294967296) : bits .and .u32 x 255 = x % 256 :=
  bits_mask .u32 32 (by decide) wraps_u32 8 (by decide) x h0 (by omega)
theorem or192 (y : Int) (h0 : 0 ≤ y) (h1 : y < 64) : bits .or .u32 192 y = 192 + y :=
  bits_join .u32 32 (by decide) wraps_u32 6 192 y (by decide) (by decide) (by decide) h0 h1 (by omega)
theorem or128 (y : Int) (h0 : 0 ≤ y) (h1 : y < 64) : bits .or .u32 128 y = 128 + y :=
  bits_join .u32 32 (by decide) wraps_u32 6 128 y (by decide) (by decide) (by decide) h0 h1 (by omega)
theorem or224 (y : Int) (h0 : 0 ≤ y) (h1 : y < 16) : bits .or .u32 224 y = 224 + y :=
  bits_join .u32 32 (by decide) wraps_u32 4 224 y (by decide) (by decide) (by decide) h0 h1 (by omega)
theorem or240 (y : Int) (h0 : 0 ≤ y) (h1 : y < 16) : bits .or .u32 240 y = 240 + y :=
  bits_join .u32 32 (by decide) wraps_u32 4 240 y (by decide) (by decide) (by decide) h0 h1 (by omega)

set_option maxHeartbeats 4000000 in
set_option maxRecDepth 100000 in
theorem model_neg (r : Int) (h1 : r < 0) (w : World) :
    Calls Eddg.prog 8 #[.int .i32 r] w fun e w' => e = .returned (.tuple #[.agg #[.int .u8 (r % 256), .int .u8 (0), .int .u8 (0), .int .u8 (0)], .int .i64 1, .int .i64 (-1)]) ∧ Below w.heap.size w w' := by
  have e0 := and255 (r % 4294967296) (by omega) (by omega)
  go_enter Eddg.func8, Eddg.ntmps8
  go_wp2
  refine bodyPost_ret (v := .tuple #[.agg #[.int .u8 (r % 256), .int .u8 (0), .int .u8 (0), .int .u8 (0)], .int .i64 1, .int .i64 (-1)]) (by simp [results, Eddg.results8, go_sem]) rfl ⟨rfl, ?_⟩
  exact (Below.refl _ _).alloc (Nat.le_refl _) _

set_option maxHeartbeats 4000000 in
set_option maxRecDepth 100000 in
theorem model_one (r : Int) (h0 : 0 ≤ r) (h1 : r ≤ 127) (w : World) :
    Calls Eddg.prog 8 #[.int .i32 r] w fun e w' => e = .returned (.tuple #[.agg #[.int .u8 (r), .int .u8 (0), .int .u8 (0), .int .u8 (0)], .int .i64 1, .int .i64 1]) ∧ Below w.heap.size w w' := by
  go_enter Eddg.func8, Eddg.ntmps8
  go_wp2
  refine bodyPost_ret (v := .tuple #[.agg #[.int .u8 (r), .int .u8 (0), .int .u8 (0), .int .u8 (0)], .int .i64 1, .int .i64 1]) (by simp [results, Eddg.results8, go_sem]) rfl ⟨rfl, ?_⟩
  exact (Below.refl _ _).alloc (Nat.le_refl _) _

set_option maxHeartbeats 4000000 in
set_option maxRecDepth 100000 in
theorem model_two (r : Int) (h0 : 128 ≤ r) (h1 : r ≤ 2047) (w : World) :
    Calls Eddg.prog 8 #[.int .i32 r] w fun e w' => e = .returned (.tuple #[.agg #[.int .u8 (192 + r / 64), .int .u8 (128 + r % 64), .int .u8 (0), .int .u8 (0)], .int .i64 2, .int .i64 2]) ∧ Below w.heap.size w w' := by
  have e0 := or192 (r / 64) (by omega) (by omega)
  have e1 := and63 (r) (by omega) (by omega)
  have e2 := or128 (r % 64) (by omega) (by omega)
  go_enter Eddg.func8, Eddg.ntmps8
  go_wp2
  refine bodyPost_ret (v := .tuple #[.agg #[.int .u8 (192 + r / 64), .int .u8 (128 + r % 64), .int .u8 (0), .int .u8 (0)], .int .i64 2, .int .i64 2]) (by simp [results, Eddg.results8, go_sem]) rfl ⟨rfl, ?_⟩
  exact (Below.refl _ _).alloc (Nat.le_refl _) _

set_option maxHeartbeats 4000000 in
set_option maxRecDepth 100000 in
theorem model_three_lo (r : Int) (h0 : 2048 ≤ r) (h1 : r < 55296) (w : World) :
    Calls Eddg.prog 8 #[.int .i32 r] w fun e w' => e = .returned (.tuple #[.agg #[.int .u8 (224 + r / 4096), .int .u8 (128 + r / 64 % 64), .int .u8 (128 + r % 64), .int .u8 (0)], .int .i64 3, .int .i64 3]) ∧ Below w.heap.size w w' := by
  have e0 := or224 (r / 4096) (by omega) (by omega)
  have e1 := and63 (r / 64) (by omega) (by omega)
  have e2 := or128 (r / 64 % 64) (by omega) (by omega)
  have e3 := and63 (r) (by omega) (by omega)
  have e4 := or128 (r % 64) (by omega) (by omega)
  go_enter Eddg.func8, Eddg.ntmps8
  go_wp2
  refine bodyPost_ret (v := .tuple #[.agg #[.int .u8 (224 + r / 4096), .int .u8 (128 + r / 64 % 64), .int .u8 (128 + r % 64), .int .u8 (0)], .int .i64 3, .int .i64 3]) (by simp [results, Eddg.results8, go_sem]) rfl ⟨rfl, ?_⟩
  exact (Below.refl _ _).alloc (Nat.le_refl _) _

set_option maxHeartbeats 4000000 in
set_option maxRecDepth 100000 in
theorem model_sur (r : Int) (h0 : 55296 ≤ r) (h1 : r ≤ 57343) (w : World) :
    Calls Eddg.prog 8 #[.int .i32 r] w fun e w' => e = .returned (.tuple #[.agg #[.int .u8 (239), .int .u8 (191), .int .u8 (189), .int .u8 (0)], .int .i64 3, .int .i64 (-1)]) ∧ Below w.heap.size w w' := by
  go_enter Eddg.func8, Eddg.ntmps8
  go_wp2
  refine bodyPost_ret (v := .tuple #[.agg #[.int .u8 (239), .int .u8 (191), .int .u8 (189), .int .u8 (0)], .int .i64 3, .int .i64 (-1)]) (by simp [results, Eddg.results8, go_sem]) rfl ⟨rfl, ?_⟩
  exact (Below.refl _ _).alloc (Nat.le_refl _) _

set_option maxHeartbeats 4000000 in
set_option maxRecDepth 100000 in
theorem model_three_hi (r : Int) (h0 : 57343 < r) (h1 : r ≤ 65535) (w : World) :
    Calls Eddg.prog 8 #[.int .i32 r] w fun e w' => e = .returned (.tuple #[.agg #[.int .u8 (224 + r / 4096), .int .u8 (128 + r / 64 % 64), .int .u8 (128 + r % 64), .int .u8 (0)], .int .i64 3, .int .i64 3]) ∧ Below w.heap.size w w' := by
  have e0 := or224 (r / 4096) (by omega) (by omega)
  have e1 := and63 (r / 64) (by omega) (by omega)
  have e2 := or128 (r / 64 % 64) (by omega) (by omega)
  have e3 := and63 (r) (by omega) (by omega)
  have e4 := or128 (r % 64) (by omega) (by omega)
  go_enter Eddg.func8, Eddg.ntmps8
  go_wp2
  refine bodyPost_ret (v := .tuple #[.agg #[.int .u8 (224 + r / 4096), .int .u8 (128 + r / 64 % 64), .int .u8 (128 + r % 64), .int .u8 (0)], .int .i64 3, .int .i64 3]) (by simp [results, Eddg.results8, go_sem]) rfl ⟨rfl, ?_⟩
  exact (Below.refl _ _).alloc (Nat.le_refl _) _

set_option maxHeartbeats 4000000 in
set_option maxRecDepth 100000 in
theorem model_four (r : Int) (h0 : 65536 ≤ r) (h1 : r ≤ 1114111) (w : World) :
    Calls Eddg.prog 8 #[.int .i32 r] w fun e w' => e = .returned (.tuple #[.agg #[.int .u8 (240 + r / 262144), .int .u8 (128 + r / 4096 % 64), .int .u8 (128 + r / 64 % 64), .int .u8 (128 + r % 64)], .int .i64 4, .int .i64 4]) ∧ Below w.heap.size w w' := by
  have e0 := or240 (r / 262144) (by omega) (by omega)
  have e1 := and63 (r / 4096) (by omega) (by omega)
  have e2 := or128 (r / 4096 % 64) (by omega) (by omega)
  have e3 := and63 (r / 64) (by omega) (by omega)
  have e4 := or128 (r / 64 % 64) (by omega) (by omega)
  have e5 := and63 (r) (by omega) (by omega)
  have e6 := or128 (r % 64) (by omega) (by omega)
  go_enter Eddg.func8, Eddg.ntmps8
  go_wp2
  refine bodyPost_ret (v := .tuple #[.agg #[.int .u8 (240 + r / 262144), .int .u8 (128 + r / 4096 % 64), .int .u8 (128 + r / 64 % 64), .int .u8 (128 + r % 64)], .int .i64 4, .int .i64 4]) (by simp [results, Eddg.results8, go_sem]) rfl ⟨rfl, ?_⟩
  exact (Below.refl _ _).alloc (Nat.le_refl _) _

set_option maxHeartbeats 4000000 in
set_option maxRecDepth 100000 in
theorem model_big (r : Int) (h0 : 1114111 < r) (h1 : r ≤ 2147483647) (w : World) :
    Calls Eddg.prog 8 #[.int .i32 r] w fun e w' => e = .returned (.tuple #[.agg #[.int .u8 (239), .int .u8 (191), .int .u8 (189), .int .u8 (0)], .int .i64 3, .int .i64 (-1)]) ∧ Below w.heap.size w w' := by
  go_enter Eddg.func8, Eddg.ntmps8
  go_wp2
  refine bodyPost_ret (v := .tuple #[.agg #[.int .u8 (239), .int .u8 (191), .int .u8 (189), .int .u8 (0)], .int .i64 3, .int .i64 (-1)]) (by simp [results, Eddg.results8, go_sem]) rfl ⟨rfl, ?_⟩
  exact (Below.refl _ _).alloc (Nat.le_refl _) _

/-- zzRuneModel at every rune: four bytes of which the first so many are what WriteRune appends; their number; RuneLen's word. -/
theorem model_any (r : Int) (h1 : r ≤ 2147483647) (w : World) :
    Calls Eddg.prog 8 #[.int .i32 r] w fun e w' => ∃ c0 c1 c2 c3 : Int,
      e = .returned (.tuple #[.agg #[.int .u8 c0, .int .u8 c1, .int .u8 c2, .int .u8 c3], .int .i64 ((rb r).length : Nat), .int .i64 (cnt r)]) ∧
      [c0, c1, c2, c3].take (rb r).length = rb r ∧ Below w.heap.size w w' := by
  rcases ways r with h | ⟨h, k⟩ | ⟨h, k⟩ | ⟨h, k⟩ | ⟨h, k⟩ | ⟨h, k⟩ | ⟨h, k⟩ | h
  · rw [rb_neg h, cnt_neg h]; exact (model_neg r h w).mono fun e w' ⟨he, hb⟩ => ⟨_, _, _, _, he, rfl, hb⟩
  · rw [rb_one h k, cnt_one h k]; exact (model_one r h k w).mono fun e w' ⟨he, hb⟩ => ⟨_, _, _, _, he, rfl, hb⟩
  · rw [rb_two h k, cnt_two h k]; exact (model_two r h k w).mono fun e w' ⟨he, hb⟩ => ⟨_, _, _, _, he, rfl, hb⟩
  · rw [rb_three h (Or.inl k) (by omega), cnt_three h (Or.inl k) (by omega)]; exact (model_three_lo r h k w).mono fun e w' ⟨he, hb⟩ => ⟨_, _, _, _, he, rfl, hb⟩
  · rw [rb_sur h k, cnt_sur h k]; exact (model_sur r h k w).mono fun e w' ⟨he, hb⟩ => ⟨_, _, _, _, he, rfl, hb⟩
  · rw [rb_three (by omega) (Or.inr h) k, cnt_three (by omega) (Or.inr h) k]; exact (model_three_hi r h k w).mono fun e w' ⟨he, hb⟩ => ⟨_, _, _, _, he, rfl, hb⟩
  · rw [rb_four h k, cnt_four h k]; exact (model_four r h k w).mono fun e w' ⟨he, hb⟩ => ⟨_, _, _, _, he, rfl, hb⟩
  · rw [rb_big h, cnt_big h]; exact (model_big r h h1 w).mono fun e w' ⟨he, hb⟩ => ⟨_, _, _, _, he, rfl, hb⟩
#print axioms model_any
end Go.Proofs.YoeddwDoor
