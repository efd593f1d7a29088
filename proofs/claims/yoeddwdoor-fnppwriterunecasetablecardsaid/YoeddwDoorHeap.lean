/-
  PLAIN FACTS ON WORLDS: the block of a 'pp' ('PP'); a row that the call owns behind the bytes that EncodeRune lays.
-/
import Derived.Test.YoeddwDoorEnc
import Derived.WalkKit
namespace Go.Proofs.YoeddwDoor
open Go.RowKit

/-- A fact laid by, out of the walk's sight. -/
theorem hid {p : Prop} (h : p) : Hid p := h

/-- Block pb is a 'pp' whose first cell (the field buf) holds v; nothing of it is frozen. -/
def PP (w : World) (pb : Nat) (v : Value) : Prop := ∃ cs : Array Value, w.heap[pb]? = some (.cells cs 45 (0, 0)) ∧ cs[0]? = some v

section
variable {w w' : World} {pb base n : Nat} {v x : Value} {xs : List Value}

theorem PP.cell (h : PP w pb v) : w.cell? ⟨pb, 0, none⟩ = some v := by
  obtain ⟨cs, hb, h0⟩ := h
  rw [cell_of_row w pb 0 cs 45 (0, 0) hb, h0]
theorem PP.free (h : PP w pb v) : w.frozen? ⟨pb, 0, none⟩ = false := by
  obtain ⟨cs, hb, _⟩ := h
  exact frozen_of_row w pb 0 cs 45 hb
theorem PP.lt (h : PP w pb v) : pb < w.heap.size := by
  obtain ⟨cs, hb, _⟩ := h
  exact lt_of_block hb
theorem PP.set (h : PP w pb v) (u : Value) : PP (w.setCell ⟨pb, 0, none⟩ u) pb u := by
  obtain ⟨cs, hb, h0⟩ := h
  refine ⟨_, heap_setCell_same w pb 0 cs 45 u hb, ?_⟩
  have : 0 < cs.size := (Array.getElem?_eq_some_iff.1 h0).1
  simp [this]
theorem PP.block (h : PP w pb v) (hb : w'.heap[pb]? = w.heap[pb]?) : PP w' pb v := by
  obtain ⟨cs, hc, h0⟩ := h
  exact ⟨cs, hb.trans hc, h0⟩
theorem PP.grown {row : Option Nat} (h : PP w pb v) (hg : w.grownBy w' row) (hne : row ≠ some pb) : PP w' pb v :=
  h.block (hg.block pb h.lt (fun e => hne e.symm))
theorem PP.ne (h : PP w pb v) (ho : w.ownsRow base 5 1 x n xs) : x.ownBlock ≠ some pb := by
  obtain ⟨cs, hc, _⟩ := h
  rcases ho.2 with ⟨rfl, _⟩ | ⟨g, cap, cur, rfl, _, hg, _⟩
  · simp [Value.ownBlock]
  · intro e
    simp only [Value.ownBlock, Option.some.injEq] at e
    subst e
    rw [hg] at hc
    simp at hc

/-- What is owned from a number on is owned from every smaller one on. -/
theorem own_mono {base' : Nat} (h : w.ownsRow base 5 1 x n xs) (hb : base' ≤ base) : w.ownsRow base' 5 1 x n xs := by
  refine ⟨h.1, ?_⟩
  rcases h.2 with h0 | ⟨g, cap, cur, hv, hbg, r⟩
  · exact Or.inl h0
  · exact Or.inr ⟨g, cap, cur, hv, Nat.le_trans hb hbg, r⟩

/-- What is owned below B stays owned where nothing below B has turned. -/
theorem own_below {B : Nat} (h : w.ownsRow base 5 1 x n xs) (hb : Below B w w') (hlt : w.heap.size ≤ B) : w'.ownsRow base 5 1 x n xs := by
  refine ⟨h.1, ?_⟩
  rcases h.2 with h0 | ⟨g, cap, cur, hv, hbg, hg, r⟩
  · exact Or.inl h0
  · refine Or.inr ⟨g, cap, cur, hv, hbg, ?_, r⟩
    rw [hb.block g (by have := lt_of_block hg; omega)]
    exact hg
end

theorem setCells_grown (g : Nat) : ∀ (news : List Value) (o : Nat) (w : World), w.grownBy (w.setCells g o news) (some g)
  | [], _, w => World.grownBy.refl _ _
  | u :: l, o, w => by
    have h := setCells_grown g l (o + 1) (w.setCell ⟨g, o, none⟩ u)
    have hs : (w.setCell ⟨g, o, none⟩ u).heap.size = w.heap.size := by simp
    refine ⟨h.os, h.tape, h.output, by have := h.size; rw [hs] at this; exact this, fun k hk hne => ?_⟩
    have h1 := h.block k (by rw [hs]; exact hk) hne
    exact h1.trans (heap_setCell_other w ⟨g, o, none⟩ k u (fun e => hne (by rw [e])))

theorem setCells_row (g : Nat) (e : TypeId) : ∀ (news : List Value) (o : Nat) (w : World) (cur : Array Value), w.heap[g]? = some (.cells cur e (0, 0)) → o + news.length ≤ cur.size →
    ∃ cur' : Array Value, (w.setCells g o news).heap[g]? = some (.cells cur' e (0, 0)) ∧ cur'.size = cur.size ∧ cur'.toList.take (o + news.length) = cur.toList.take o ++ news
  | [], o, w, cur, hg, _ => ⟨cur, hg, rfl, by simp⟩
  | u :: l, o, w, cur, hg, hle => by
    simp only [List.length_cons] at hle
    obtain ⟨cur', h1, h2, h3⟩ := setCells_row g e l (o + 1) (w.setCell ⟨g, o, none⟩ u) (cur.setIfInBounds o u) (heap_setCell_same w g o cur e u hg) (by simp; omega)
    refine ⟨cur', h1, by simpa using h2, ?_⟩
    have ho : o < cur.toList.length := by simp; omega
    rw [show o + (u :: l).length = o + 1 + l.length by simp; omega, h3, Array.toList_setIfInBounds, List.take_succ_eq_append_getElem (by simpa using ho)]
    have hset : (List.take o cur.toList).set o u = List.take o cur.toList := List.set_eq_of_length_le (by simp; omega)
    simp [List.take_set, hset]

/-- The row behind EncodeRune: cut back to n cells, then the new ones. -/
theorem own_laid {w : World} {base g len cap n : Nat} {xs ys news : List Value} (h : w.ownsRow base 5 1 (.slice (some ⟨g, 0, none⟩) len cap) len (xs ++ ys)) (hx : xs.length = n) (hc : n + news.length ≤ cap) :
    (w.setCells g n news).ownsRow base 5 1 (.slice (some ⟨g, 0, none⟩) (n + news.length) cap) (n + news.length) (xs ++ news) := by
  rcases h.2 with ⟨h', _⟩ | ⟨g', cap', cur, h', hb, hg, hnc, hcm, hcs, htake⟩
  · simp at h'
  · simp only [Value.slice.injEq, Option.some.injEq, Addr.mk.injEq, and_true, true_and] at h'
    obtain ⟨rfl, rfl⟩ := h'
    obtain ⟨cur', h1, h2, h3⟩ := setCells_row g 5 news n w cur hg (by omega)
    have hl := h.1
    simp only [List.length_append] at hl
    have hx' : cur.toList.take n = xs := by
      have h4 := congrArg (List.take n) htake
      rw [List.take_take, Nat.min_eq_left (by omega), ← hx, List.take_left] at h4
      rw [← hx]; exact h4
    refine ⟨by simp [hx], Or.inr ⟨g, cap, cur', rfl, hb, h1, hc, hcm, by omega, ?_⟩⟩
    rw [Nat.mul_one, h3, hx']

theorem own_room {w : World} {base g len cap : Nat} {ys : List Value} (h : w.ownsRow base 5 1 (.slice (some ⟨g, 0, none⟩) len cap) len ys) (i : Nat) (hi : i < cap) : (w.cell? ⟨g, i, none⟩).isSome = true := by
  rcases h.2 with ⟨h', _⟩ | ⟨g', cap', cur, h', hb, hg, hnc, hcm, hcs, htake⟩
  · simp at h'
  · simp only [Value.slice.injEq, Option.some.injEq, Addr.mk.injEq, and_true, true_and] at h'
    obtain ⟨rfl, rfl⟩ := h'
    rw [cell_of_row w g i cur 5 (0, 0) hg]
    simp [show i < cur.size by omega]
/-- What is owned is a slice of that length. -/
theorem own_shape {w : World} {base n : Nat} {v : Value} {xs : List Value} (h : w.ownsRow base 5 1 v n xs) : ∃ ao cap, v = .slice ao n cap := by
  rcases h.2 with ⟨rfl, rfl⟩ | ⟨g, cap, cur, rfl, _⟩
  · exact ⟨_, _, rfl⟩
  · exact ⟨_, _, rfl⟩

/-- .. no longer than its capacity; and where it has room it is not nil. -/
theorem own_le {w : World} {base n m cap : Nat} {ao : Option Addr} {xs : List Value} (h : w.ownsRow base 5 1 (.slice ao m cap) n xs) : n ≤ cap := by
  rcases h.2 with ⟨h', rfl⟩ | ⟨g, cap', cur, h', _, _, hle, _⟩
  · exact Nat.zero_le _
  · simp only [Value.slice.injEq] at h'
    omega
theorem own_some {w : World} {base n cap : Nat} {ao : Option Addr} {xs : List Value} (h : w.ownsRow base 5 1 (.slice ao n cap) n xs) (hc : 0 < cap) : ∃ g, ao = some ⟨g, 0, none⟩ := by
  rcases h.2 with ⟨h', _⟩ | ⟨g, cap', cur, h', _⟩
  · simp only [Value.slice.injEq] at h'
    omega
  · simp only [Value.slice.injEq] at h'
    exact ⟨g, h'.1⟩

/-- The one byte that is to be appended lies in the block that was made for it. -/
theorem cell_new (w : World) (u : Value) : ∀ j x, [u][j]? = some x → (w.alloc (.cells #[u] 5)).cell? ((⟨w.heap.size, 0, none⟩ : Addr).add j) = some x := by
  intro j x hj
  match j, hj with
  | 0, hj => simp at hj; subst hj; simp [Addr.add]
theorem one_new (k : Int) : ∀ u ∈ [Value.int .u8 k], u.oneCell' = true := by
  intro u hu
  simp at hu; subst hu; rfl

/-- Behind an append of one byte onto a row that the call owns. -/
theorem step_append {w w1 : World} {pb base n : Nat} {x v : Value} {xs : List Value} {o : Obj} (hP : PP w pb x) (hown : w.ownsRow base 5 1 v n xs) (hb : base ≤ w.heap.size)
    (hg : (w.alloc o).grownBy w1 v.ownBlock) : PP w1 pb x ∧ Below base w w1 := by
  have h1 : PP (w.alloc o) pb x := hP.block (Below.heap_alloc w o pb hP.lt)
  refine ⟨h1.grown hg (hP.ne hown), ?_⟩
  have h2 : Below base w (w.alloc o) := (Below.refl _ _).alloc hb o
  exact h2.grown hg (by simp; omega) (fun k hk => (hown.lt k hk).1)

/-- Behind the store of the new slice into the field. -/
theorem step_store {w w1 : World} {pb base n : Nat} {x v : Value} {xs : List Value} (hP : PP w1 pb x) (hown : w1.ownsRow base 5 1 v n xs) (hB : Below base w w1) (hb : base ≤ pb) :
    PP (w1.setCell ⟨pb, 0, none⟩ v) pb v ∧ (w1.setCell ⟨pb, 0, none⟩ v).ownsRow base 5 1 v n xs ∧ Below base w (w1.setCell ⟨pb, 0, none⟩ v) :=
  ⟨hP.set v, ownsRow_setCell_other hown (hP.ne hown) v, hB.setCell hb v⟩
#print axioms own_laid
end Go.Proofs.YoeddwDoor
