/-
  SEAT b0774a: the graph's rows as they are built up.
-/
import Derived.Test.YbulkozuNew
namespace Go.Proofs.Ybulkozu
open Go.RowKit

/-- Block A holds nn slices, each a row of the call's own, no two in one block. -/
structure Adj (W : World) (b0 A nn : Nat) (Vs : List Value) (Y : Nat → List Int) (m : Nat) : Prop where
  blk : W.heap[A]? = some (.cells Vs.toArray 28 (0, 0))
  len : Vs.length = nn
  own : ∀ a, a < nn → ∃ r cap, Vs[a]? = some (.slice r (Y a).length cap) ∧ W.ownsRow b0 21 1 (.slice r (Y a).length cap) (Y a).length ((Y a).map (Value.int .i32))
  apart : ∀ (a a' k : Nat) (v v' : Value), a ≠ a' → Vs[a]? = some v → Vs[a']? = some v' → v.ownBlock = some k → v'.ownBlock ≠ some k
  bd : ∀ a, a < nn → ∀ y ∈ Y a, 0 ≤ y ∧ y < nn
  sum : ∀ a, a < nn → (Y a).length ≤ m
  gA : b0 ≤ A
  le : b0 ≤ W.heap.size

theorem Adj.push {W : World} {b0 A nn m a cap : Nat} {Vs : List Value} {Y : Nat → List Int} {r : Option Addr} {y : Int} {o : Obj} {w1 : World} {v' : Value} (h : Adj W b0 A nn Vs Y m) (ha : a < nn) (hy0 : 0 ≤ y) (hy1 : y < nn)
    (hV : Vs[a]? = some (.slice r (Y a).length cap)) (hO : W.ownsRow b0 21 1 (.slice r (Y a).length cap) (Y a).length ((Y a).map (Value.int .i32)))
    (hown : w1.ownsRow b0 21 1 v' ((Y a).length + 1) ((Y a).map (Value.int .i32) ++ [.int .i32 y]))
    (hgrow : (W.alloc o).grownBy w1 (Value.slice r (Y a).length cap).ownBlock) (hfr : v'.ownBlock = (Value.slice r (Y a).length cap).ownBlock ∨ ∃ k, v'.ownBlock = some k ∧ W.heap.size + 1 ≤ k) :
    w1.heap[A]? = W.heap[A]? ∧ (∃ Y', Adj (w1.setCell ⟨A, a, none⟩ v') b0 A nn (Vs.set a v') Y' (m + 1)) ∧ Below b0 W (w1.setCell ⟨A, a, none⟩ v') := by
  have e : ∀ k, k < W.heap.size → (Value.slice r (Y a).length cap).ownBlock ≠ some k → w1.heap[k]? = W.heap[k]? := fun k hk q => (hgrow.block k (by simp; omega) (fun q' => q q'.symm)).trans (Below.heap_alloc _ _ _ hk)
  have eA := e A (lt_of_block h.blk) (own_ne hO h.blk (by decide))
  have s1 := hgrow.size
  simp at s1
  have nA := own_ne hown (eA.trans h.blk) (by decide)
  obtain ⟨r', cap', rfl⟩ := row_form hown
  have hsl := h.len
  have gA := h.gA
  have le := h.le
  refine ⟨eA, ⟨fun k => if k = a then Y a ++ [y] else Y k, ?_, ?_, ?_, ?_, ?_, ?_, h.gA, ?_⟩, ?_⟩
  · rw [blk_set (eA.trans h.blk)]; simp
  · simp [h.len]
  · intro a' ha'
    by_cases q : a' = a
    · subst q
      refine ⟨r', cap', ?_, ?_⟩
      · simp [hsl, ha]
      · have := ownsRow_setCell_other hown nA (a := ⟨A, a', none⟩) (.slice r' ((Y a').length + 1) cap')
        simpa using this
    · obtain ⟨r2, cap2, h2, h3⟩ := h.own a' ha'
      refine ⟨r2, cap2, ?_, ?_⟩
      · rw [List.getElem?_set_ne (fun x => q x.symm), h2]; simp [q]
      · simp only [if_neg q]
        refine own_kept h3 (fun k qk => ?_)
        have hk := (h3.lt k qk).2
        have n1 : k ≠ A := by rintro rfl; exact own_ne h3 h.blk (by decide) qk
        rw [Below.heap_setCell _ _ _ _ (by simpa using n1), e k hk (h.apart a' a k _ _ q h2 hV qk)]
  · have key : ∀ (b k : Nat) (u : Value), b ≠ a → Vs[b]? = some u → (Value.slice r' ((Y a).length + 1) cap').ownBlock = some k → u.ownBlock ≠ some k := by
      intro b k u hb hu q
      rcases hfr with hfr | ⟨k', hk', hge⟩
      · rw [hfr] at q
        exact h.apart a b k _ _ (fun x => hb x.symm) hV hu q
      · rw [hk'] at q
        cases q
        intro q2
        have hbl : b < nn := by
          rw [← hsl]
          exact (List.getElem?_eq_some_iff.mp hu).1
        obtain ⟨r2, cap2, h2, h3⟩ := h.own b hbl
        rw [h2] at hu
        cases hu
        have := (h3.lt _ q2).2
        omega
    intro b b' k u u' hne hu hu' q
    by_cases q1 : b = a
    · subst q1
      rw [List.getElem?_set_self (by omega)] at hu
      rw [List.getElem?_set_ne hne] at hu'
      cases hu
      exact key b' k u' (fun x => hne x.symm) hu' q
    · rw [List.getElem?_set_ne (fun x => q1 x.symm)] at hu
      by_cases q2 : b' = a
      · subst q2
        rw [List.getElem?_set_self (by omega)] at hu'
        cases hu'
        intro q3
        exact key b k u q1 hu q3 q
      · rw [List.getElem?_set_ne (fun x => q2 x.symm)] at hu'
        exact h.apart b b' k u u' hne hu hu' q
  · intro a' ha' z hz
    by_cases q : a' = a
    · subst q
      simp at hz
      rcases hz with hz | rfl
      · exact h.bd a' ha' z hz
      · exact ⟨hy0, hy1⟩
    · simp only [if_neg q] at hz
      exact h.bd a' ha' z hz
  · intro a' ha'
    by_cases q : a' = a
    · subst q
      have := h.sum a' ha'
      simp; omega
    · simp only [if_neg q]
      have := h.sum a' ha'
      omega
  · simp [World.setCell]; omega
  · refine ⟨hgrow.os, hgrow.tape, hgrow.output, by simp [World.setCell]; omega, fun k hk => ?_⟩
    rw [Below.heap_setCell _ _ _ _ (by simp; omega), e k (by omega) (fun q => by have := (hO.lt k q).1; omega)]

/-- The rows, as the sides' walks take them. -/
theorem Adj.at {W : World} {b0 A nn m : Nat} {Vs : List Value} {Y : Nat → List Int} (h : Adj W b0 A nn Vs Y m) (hm : m ≤ 2048) : AdjAt W W.heap.size A nn Y := by
  refine ⟨fun a ha => ?_, h.bd, fun a ha => Nat.le_trans (h.sum a ha) hm, lt_of_block h.blk⟩
  obtain ⟨r, cap, h1, h2⟩ := h.own a ha
  refine ⟨r, cap, ?_, fun hp => ?_⟩
  · simp [World.cell?, h.blk, h1]
  · rcases own_look h2 with ⟨_, q, _⟩ | ⟨g, rfl, _, _⟩
    · omega
    · refine ⟨g, rfl, (h2.lt g rfl).2, fun j hj => ?_⟩
      rw [h2.cellAt j (by omega)]
      simp [List.getD, hj]

theorem Adj.first (W : World) (nn : Nat) : Adj (W.alloc (.cells (List.replicate nn (Value.slice none 0 0)).toArray 28)) W.heap.size W.heap.size nn (List.replicate nn (Value.slice none 0 0)) (fun _ => []) 0 := by
  refine ⟨?_, by simp, fun a ha => ⟨none, 0, by simp [ha], World.ownsRow_nil _ _ _ _⟩, ?_, by simp, by simp, Nat.le_refl _, by simp⟩
  · show (W.heap.push _)[W.heap.size]? = _
    simp
  · intro a a' k v v' _ h1 _ q
    have := List.mem_of_getElem? h1
    simp at this
    rw [this.2] at q
    simp [Value.ownBlock] at q
end Go.Proofs.Ybulkozu
