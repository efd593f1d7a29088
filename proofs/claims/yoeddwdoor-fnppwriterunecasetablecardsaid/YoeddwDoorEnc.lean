/-
  utf8.RuneLen, utf8.encodeRuneNonASCII, utf8.EncodeRune: the library's own text walked, arm by arm.
-/
import Derived.Test.YoeddwDoorRows
import Derived.Test.YoeddwDoorPlain
import Derived.WalkKit
import Derived.Laws.IdiomCopy
namespace Go.Proofs.YoeddwDoor
open Go.RowKit

theorem runeLen_any (r : Int) (w : World) :
    Calls Eddg.prog 12 #[.int .i32 r] w fun e w' => e = .returned (.int .i64 (cnt r)) ∧ w' = w := by
  rcases ways r with h | ⟨h, k⟩ | ⟨h, k⟩ | ⟨h, k⟩ | ⟨h, k⟩ | ⟨h, k⟩ | ⟨h, k⟩ | h
  · rw [cnt_neg h]
    go_enter Eddg.func12, Eddg.ntmps12
    go_wp2
    go_ret
    exact ⟨rfl, rfl⟩
  · rw [cnt_one h k]
    go_enter Eddg.func12, Eddg.ntmps12
    go_wp2
    go_ret
    exact ⟨rfl, rfl⟩
  · rw [cnt_two h k]
    go_enter Eddg.func12, Eddg.ntmps12
    go_wp2
    go_ret
    exact ⟨rfl, rfl⟩
  · rw [cnt_three h (Or.inl k) (by omega)]
    go_enter Eddg.func12, Eddg.ntmps12
    go_wp2
    go_ret
    exact ⟨rfl, rfl⟩
  · rw [cnt_sur h k]
    go_enter Eddg.func12, Eddg.ntmps12
    go_wp2
    go_ret
    exact ⟨rfl, rfl⟩
  · rw [cnt_three (by omega) (Or.inr h) k]
    go_enter Eddg.func12, Eddg.ntmps12
    go_wp2
    go_ret
    exact ⟨rfl, rfl⟩
  · rw [cnt_four h k]
    go_enter Eddg.func12, Eddg.ntmps12
    go_wp2
    go_ret
    exact ⟨rfl, rfl⟩
  · rw [cnt_big h]
    go_enter Eddg.func12, Eddg.ntmps12
    go_wp2
    go_ret
    exact ⟨rfl, rfl⟩

set_option maxHeartbeats 4000000 in
set_option maxRecDepth 100000 in
theorem enc_two (b off len cap : Nat) (r : Int) (h0 : 128 ≤ r) (h1 : r ≤ 2047) (w : World) (hl : 4 ≤ len)
    (hc : ∀ j, j < 4 → (w.cell? ⟨b, off + j, none⟩).isSome = true) (hf : ∀ j, j < 4 → w.frozen? ⟨b, off + j, none⟩ = false) :
    Calls Eddg.prog 14 #[.slice (some ⟨b, off, none⟩) len cap, .int .i32 r] w fun e w' => e = .returned (.int .i64 2) ∧ w' = w.setCells b off [.int .u8 (192 + r / 64), .int .u8 (128 + r % 64)] := by
  obtain ⟨c0, hc0⟩ := Option.isSome_iff_exists.1 (hc 0 (by omega)); have hf0 := hf 0 (by omega)
  obtain ⟨c1, hc1⟩ := Option.isSome_iff_exists.1 (hc 1 (by omega)); have hf1 := hf 1 (by omega)
  simp only [Nat.add_zero] at hc0 hf0
  clear hc hf
  go_enter Eddg.func14, Eddg.ntmps14
  go_wp2
  go_ret
  exact ⟨rfl, rfl⟩

set_option maxHeartbeats 4000000 in
set_option maxRecDepth 100000 in
theorem enc_three_lo (b off len cap : Nat) (r : Int) (h0 : 2048 ≤ r) (h1 : r < 55296) (w : World) (hl : 4 ≤ len)
    (hc : ∀ j, j < 4 → (w.cell? ⟨b, off + j, none⟩).isSome = true) (hf : ∀ j, j < 4 → w.frozen? ⟨b, off + j, none⟩ = false) :
    Calls Eddg.prog 14 #[.slice (some ⟨b, off, none⟩) len cap, .int .i32 r] w fun e w' => e = .returned (.int .i64 3) ∧ w' = w.setCells b off [.int .u8 (224 + r / 4096), .int .u8 (128 + r / 64 % 64), .int .u8 (128 + r % 64)] := by
  obtain ⟨c0, hc0⟩ := Option.isSome_iff_exists.1 (hc 0 (by omega)); have hf0 := hf 0 (by omega)
  obtain ⟨c1, hc1⟩ := Option.isSome_iff_exists.1 (hc 1 (by omega)); have hf1 := hf 1 (by omega)
  obtain ⟨c2, hc2⟩ := Option.isSome_iff_exists.1 (hc 2 (by omega)); have hf2 := hf 2 (by omega)
  simp only [Nat.add_zero] at hc0 hf0
  clear hc hf
  go_enter Eddg.func14, Eddg.ntmps14
  go_wp2
  go_ret
  exact ⟨rfl, rfl⟩

set_option maxHeartbeats 4000000 in
set_option maxRecDepth 100000 in
theorem enc_sur (b off len cap : Nat) (r : Int) (h0 : 55296 ≤ r) (h1 : r ≤ 57343) (w : World) (hl : 4 ≤ len)
    (hc : ∀ j, j < 4 → (w.cell? ⟨b, off + j, none⟩).isSome = true) (hf : ∀ j, j < 4 → w.frozen? ⟨b, off + j, none⟩ = false) :
    Calls Eddg.prog 14 #[.slice (some ⟨b, off, none⟩) len cap, .int .i32 r] w fun e w' => e = .returned (.int .i64 3) ∧ w' = w.setCells b off [.int .u8 (239), .int .u8 (191), .int .u8 (189)] := by
  obtain ⟨c0, hc0⟩ := Option.isSome_iff_exists.1 (hc 0 (by omega)); have hf0 := hf 0 (by omega)
  obtain ⟨c1, hc1⟩ := Option.isSome_iff_exists.1 (hc 1 (by omega)); have hf1 := hf 1 (by omega)
  obtain ⟨c2, hc2⟩ := Option.isSome_iff_exists.1 (hc 2 (by omega)); have hf2 := hf 2 (by omega)
  simp only [Nat.add_zero] at hc0 hf0
  clear hc hf
  go_enter Eddg.func14, Eddg.ntmps14
  go_wp2
  go_ret
  exact ⟨rfl, rfl⟩

set_option maxHeartbeats 4000000 in
set_option maxRecDepth 100000 in
theorem enc_three_hi (b off len cap : Nat) (r : Int) (h0 : 57343 < r) (h1 : r ≤ 65535) (w : World) (hl : 4 ≤ len)
    (hc : ∀ j, j < 4 → (w.cell? ⟨b, off + j, none⟩).isSome = true) (hf : ∀ j, j < 4 → w.frozen? ⟨b, off + j, none⟩ = false) :
    Calls Eddg.prog 14 #[.slice (some ⟨b, off, none⟩) len cap, .int .i32 r] w fun e w' => e = .returned (.int .i64 3) ∧ w' = w.setCells b off [.int .u8 (224 + r / 4096), .int .u8 (128 + r / 64 % 64), .int .u8 (128 + r % 64)] := by
  obtain ⟨c0, hc0⟩ := Option.isSome_iff_exists.1 (hc 0 (by omega)); have hf0 := hf 0 (by omega)
  obtain ⟨c1, hc1⟩ := Option.isSome_iff_exists.1 (hc 1 (by omega)); have hf1 := hf 1 (by omega)
  obtain ⟨c2, hc2⟩ := Option.isSome_iff_exists.1 (hc 2 (by omega)); have hf2 := hf 2 (by omega)
  simp only [Nat.add_zero] at hc0 hf0
  clear hc hf
  go_enter Eddg.func14, Eddg.ntmps14
  go_wp2
  go_ret
  exact ⟨rfl, rfl⟩

set_option maxHeartbeats 4000000 in
set_option maxRecDepth 100000 in
theorem enc_four (b off len cap : Nat) (r : Int) (h0 : 65536 ≤ r) (h1 : r ≤ 1114111) (w : World) (hl : 4 ≤ len)
    (hc : ∀ j, j < 4 → (w.cell? ⟨b, off + j, none⟩).isSome = true) (hf : ∀ j, j < 4 → w.frozen? ⟨b, off + j, none⟩ = false) :
    Calls Eddg.prog 14 #[.slice (some ⟨b, off, none⟩) len cap, .int .i32 r] w fun e w' => e = .returned (.int .i64 4) ∧ w' = w.setCells b off [.int .u8 (240 + r / 262144), .int .u8 (128 + r / 4096 % 64), .int .u8 (128 + r / 64 % 64), .int .u8 (128 + r % 64)] := by
  obtain ⟨c0, hc0⟩ := Option.isSome_iff_exists.1 (hc 0 (by omega)); have hf0 := hf 0 (by omega)
  obtain ⟨c1, hc1⟩ := Option.isSome_iff_exists.1 (hc 1 (by omega)); have hf1 := hf 1 (by omega)
  obtain ⟨c2, hc2⟩ := Option.isSome_iff_exists.1 (hc 2 (by omega)); have hf2 := hf 2 (by omega)
  obtain ⟨c3, hc3⟩ := Option.isSome_iff_exists.1 (hc 3 (by omega)); have hf3 := hf 3 (by omega)
  simp only [Nat.add_zero] at hc0 hf0
  clear hc hf
  go_enter Eddg.func14, Eddg.ntmps14
  go_wp2
  go_ret
  exact ⟨rfl, rfl⟩

set_option maxHeartbeats 4000000 in
set_option maxRecDepth 100000 in
theorem enc_big (b off len cap : Nat) (r : Int) (h0 : 1114111 < r) (h1 : r ≤ 2147483647) (w : World) (hl : 4 ≤ len)
    (hc : ∀ j, j < 4 → (w.cell? ⟨b, off + j, none⟩).isSome = true) (hf : ∀ j, j < 4 → w.frozen? ⟨b, off + j, none⟩ = false) :
    Calls Eddg.prog 14 #[.slice (some ⟨b, off, none⟩) len cap, .int .i32 r] w fun e w' => e = .returned (.int .i64 3) ∧ w' = w.setCells b off [.int .u8 (239), .int .u8 (191), .int .u8 (189)] := by
  obtain ⟨c0, hc0⟩ := Option.isSome_iff_exists.1 (hc 0 (by omega)); have hf0 := hf 0 (by omega)
  obtain ⟨c1, hc1⟩ := Option.isSome_iff_exists.1 (hc 1 (by omega)); have hf1 := hf 1 (by omega)
  obtain ⟨c2, hc2⟩ := Option.isSome_iff_exists.1 (hc 2 (by omega)); have hf2 := hf 2 (by omega)
  simp only [Nat.add_zero] at hc0 hf0
  clear hc hf
  go_enter Eddg.func14, Eddg.ntmps14
  go_wp2
  go_ret
  exact ⟨rfl, rfl⟩

/-- A list of numbers as cells of bytes. -/
def byt (l : List Int) : List Value := l.map fun x => .int .u8 x
theorem byt_length (l : List Int) : (byt l).length = l.length := by simp [byt]

/-- utf8.encodeRuneNonASCII at every rune from 128 on, its row of four cells or more. -/
theorem encNon_any (b off len cap : Nat) (r : Int) (h0 : 128 ≤ r) (h1 : r ≤ 2147483647) (w : World) (hl : 4 ≤ len)
    (hc : ∀ j, j < 4 → (w.cell? ⟨b, off + j, none⟩).isSome = true) (hf : ∀ j, j < 4 → w.frozen? ⟨b, off + j, none⟩ = false) :
    Calls Eddg.prog 14 #[.slice (some ⟨b, off, none⟩) len cap, .int .i32 r] w fun e w' => e = .returned (.int .i64 ((rb r).length : Nat)) ∧ w' = w.setCells b off (byt (rb r)) := by
  rcases ways r with h | ⟨h, k⟩ | ⟨h, k⟩ | ⟨h, k⟩ | ⟨h, k⟩ | ⟨h, k⟩ | ⟨h, k⟩ | h
  · omega
  · omega
  · rw [rb_two h k]; exact enc_two b off len cap r h k w hl hc hf
  · rw [rb_three h (Or.inl k) (by omega)]; exact enc_three_lo b off len cap r h k w hl hc hf
  · rw [rb_sur h k]; exact enc_sur b off len cap r h k w hl hc hf
  · rw [rb_three (by omega) (Or.inr h) k]; exact enc_three_hi b off len cap r h k w hl hc hf
  · rw [rb_four h k]; exact enc_four b off len cap r h k w hl hc hf
  · rw [rb_big h]; exact enc_big b off len cap r h h1 w hl hc hf

set_option maxHeartbeats 400000 in
/-- utf8.EncodeRune hands on what encodeRuneNonASCII does. -/
theorem enc_on (p : Value) (r : Int) (h0 : 128 ≤ r) (h1 : r ≤ 2147483647) (w : World) (k : Int) (W' : World)
    (cN : Calls Eddg.prog 14 #[p, .int .i32 r] w fun e w' => e = .returned (.int .i64 k) ∧ w' = W') :
    Calls Eddg.prog 13 #[p, .int .i32 r] w fun e w' => e = .returned (.int .i64 k) ∧ w' = W' := by
  go_enter Eddg.func13, Eddg.ntmps13
  go_wp2_with (go_at_call 14; refine cN.mono ?_; rintro e w' ⟨rfl, rfl⟩)
  go_ret
  exact ⟨rfl, rfl⟩

/-- utf8.EncodeRune at every rune from 128 on. -/
theorem encode_any (b off len cap : Nat) (r : Int) (h0 : 128 ≤ r) (h1 : r ≤ 2147483647) (w : World) (hl : 4 ≤ len)
    (hc : ∀ j, j < 4 → (w.cell? ⟨b, off + j, none⟩).isSome = true) (hf : ∀ j, j < 4 → w.frozen? ⟨b, off + j, none⟩ = false) :
    Calls Eddg.prog 13 #[.slice (some ⟨b, off, none⟩) len cap, .int .i32 r] w fun e w' => e = .returned (.int .i64 ((rb r).length : Nat)) ∧ w' = w.setCells b off (byt (rb r)) :=
  enc_on _ r h0 h1 w _ _ (encNon_any b off len cap r h0 h1 w hl hc hf)
#print axioms encode_any
end Go.Proofs.YoeddwDoor
