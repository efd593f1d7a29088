/-
  PLAIN: no Go in sight: what (*pp).WriteRune appends for a rune ('rb'), and what it reports ('cnt').
-/
namespace Go.Proofs.YoeddwDoor

/-- The bytes that WriteRune appends: a negative number: its low byte; a scalar value: its UTF-8 form; all else: the three bytes of U+FFFD. -/
def rb (r : Int) : List Int :=
  if r < 0 then [r % 256]
  else if r ≤ 127 then [r]
  else if r ≤ 2047 then [192 + r / 64, 128 + r % 64]
  else if 55296 ≤ r ∧ r ≤ 57343 then [239, 191, 189]
  else if r ≤ 65535 then [224 + r / 4096, 128 + r / 64 % 64, 128 + r % 64]
  else if r ≤ 1114111 then [240 + r / 262144, 128 + r / 4096 % 64, 128 + r / 64 % 64, 128 + r % 64]
  else [239, 191, 189]

/-- What utf8.RuneLen says. -/
def cnt (r : Int) : Int :=
  if r < 0 then -1
  else if r ≤ 127 then 1
  else if r ≤ 2047 then 2
  else if 55296 ≤ r ∧ r ≤ 57343 then -1
  else if r ≤ 65535 then 3
  else if r ≤ 1114111 then 4
  else -1

section
variable {r : Int}
theorem rb_neg (h : r < 0) : rb r = [r % 256] := by simp [rb, h]
theorem rb_one (h0 : 0 ≤ r) (h1 : r ≤ 127) : rb r = [r] := by rw [rb, if_neg (by omega), if_pos h1]
theorem rb_two (h0 : 128 ≤ r) (h1 : r ≤ 2047) : rb r = [192 + r / 64, 128 + r % 64] := by
  rw [rb, if_neg (by omega), if_neg (by omega), if_pos h1]
theorem rb_sur (h0 : 55296 ≤ r) (h1 : r ≤ 57343) : rb r = [239, 191, 189] := by
  rw [rb, if_neg (by omega), if_neg (by omega), if_neg (by omega), if_pos ⟨h0, h1⟩]
theorem rb_three (h0 : 2048 ≤ r) (h : r < 55296 ∨ 57343 < r) (h1 : r ≤ 65535) : rb r = [224 + r / 4096, 128 + r / 64 % 64, 128 + r % 64] := by
  rw [rb, if_neg (by omega), if_neg (by omega), if_neg (by omega), if_neg (by omega), if_pos h1]
theorem rb_four (h0 : 65536 ≤ r) (h1 : r ≤ 1114111) : rb r = [240 + r / 262144, 128 + r / 4096 % 64, 128 + r / 64 % 64, 128 + r % 64] := by
  rw [rb, if_neg (by omega), if_neg (by omega), if_neg (by omega), if_neg (by omega), if_neg (by omega), if_pos h1]
theorem rb_big (h : 1114111 < r) : rb r = [239, 191, 189] := by
  rw [rb, if_neg (by omega), if_neg (by omega), if_neg (by omega), if_neg (by omega), if_neg (by omega), if_neg (by omega)]

theorem cnt_neg (h : r < 0) : cnt r = -1 := by simp [cnt, h]
theorem cnt_one (h0 : 0 ≤ r) (h1 : r ≤ 127) : cnt r = 1 := by rw [cnt, if_neg (by omega), if_pos h1]
theorem cnt_two (h0 : 128 ≤ r) (h1 : r ≤ 2047) : cnt r = 2 := by
  rw [cnt, if_neg (by omega), if_neg (by omega), if_pos h1]
theorem cnt_sur (h0 : 55296 ≤ r) (h1 : r ≤ 57343) : cnt r = -1 := by
  rw [cnt, if_neg (by omega), if_neg (by omega), if_neg (by omega), if_pos ⟨h0, h1⟩]
theorem cnt_three (h0 : 2048 ≤ r) (h : r < 55296 ∨ 57343 < r) (h1 : r ≤ 65535) : cnt r = 3 := by
  rw [cnt, if_neg (by omega), if_neg (by omega), if_neg (by omega), if_neg (by omega), if_pos h1]
theorem cnt_four (h0 : 65536 ≤ r) (h1 : r ≤ 1114111) : cnt r = 4 := by
  rw [cnt, if_neg (by omega), if_neg (by omega), if_neg (by omega), if_neg (by omega), if_neg (by omega), if_pos h1]
theorem cnt_big (h : 1114111 < r) : cnt r = -1 := by
  rw [cnt, if_neg (by omega), if_neg (by omega), if_neg (by omega), if_neg (by omega), if_neg (by omega), if_neg (by omega)]

/-- The ways of a rune, one case each. -/
theorem ways (r : Int) : r < 0 ∨ (0 ≤ r ∧ r ≤ 127) ∨ (128 ≤ r ∧ r ≤ 2047) ∨ (2048 ≤ r ∧ r < 55296) ∨ (55296 ≤ r ∧ r ≤ 57343) ∨ (57343 < r ∧ r ≤ 65535) ∨ (65536 ≤ r ∧ r ≤ 1114111) ∨ 1114111 < r := by
  omega

theorem cnt_bounds (r : Int) : -1 ≤ cnt r ∧ cnt r ≤ 4 := by
  rcases ways r with h | ⟨h, k⟩ | ⟨h, k⟩ | ⟨h, k⟩ | ⟨h, k⟩ | ⟨h, k⟩ | ⟨h, k⟩ | h
  · rw [cnt_neg h]; omega
  · rw [cnt_one h k]; omega
  · rw [cnt_two h k]; omega
  · rw [cnt_three h (Or.inl k) (by omega)]; omega
  · rw [cnt_sur h k]; omega
  · rw [cnt_three (by omega) (Or.inr h) k]; omega
  · rw [cnt_four h k]; omega
  · rw [cnt_big h]; omega

theorem rb_length (r : Int) : 1 ≤ (rb r).length ∧ (rb r).length ≤ 4 := by
  rcases ways r with h | ⟨h, k⟩ | ⟨h, k⟩ | ⟨h, k⟩ | ⟨h, k⟩ | ⟨h, k⟩ | ⟨h, k⟩ | h
  · rw [rb_neg h]; simp
  · rw [rb_one h k]; simp
  · rw [rb_two h k]; simp
  · rw [rb_three h (Or.inl k) (by omega)]; simp
  · rw [rb_sur h k]; simp
  · rw [rb_three (by omega) (Or.inr h) k]; simp
  · rw [rb_four h k]; simp
  · rw [rb_big h]; simp
end
end Go.Proofs.YoeddwDoor
