/-
  SEAT b0774a: rows carried from world to world; a side's 'in' and 'near' as rows of the call's own.
-/
import Derived.Test.YbulkozuGrow
import Derived.Test.YbulkozuAdj
namespace Go.Proofs.Ybulkozu
open Go.RowKit

theorem own_later {w w' : World} {T : Nat → Prop} {base e size n : Nat} {v : Value} {xs : List Value} (h : w.ownsRow base e size v n xs) (K : Kept w w' T) (hT : ∀ k, v.ownBlock = some k → base ≤ k → k < w.heap.size → ¬ T k) : w'.ownsRow base e size v n xs :=
  own_kept h (fun k q => K.block k (h.lt k q).2 (hT k q (h.lt k q).1 (h.lt k q).2))
section
variable {W : World} {base S bi bn nn nc fc : Nat} {na fa : Option Addr} {ns fs : List Int} {inn near : List Bool}
theorem Side.tc_lt (h : Side W base S bi bn nn na fa nc fc ns fs inn near) {k : Nat} (q : Tc S bi bn (.slice na ns.length nc) (.slice fa fs.length fc) k) : k < W.heap.size := by
  rcases q with rfl | rfl | rfl | q | q
  · exact h.ltS
  · exact h.lti
  · exact h.ltn
  · exact (h.nown.lt k q).2
  · exact (h.fown.lt k q).2
theorem Side.tc_ge (h : Side W base S bi bn nn na fa nc fc ns fs inn near) {k : Nat} (q : Tc S bi bn (.slice na ns.length nc) (.slice fa fs.length fc) k) : base ≤ k := by
  rcases q with rfl | rfl | rfl | q | q
  · exact h.gS
  · exact h.gi
  · exact h.gn
  · exact (h.nown.lt k q).1
  · exact (h.fown.lt k q).1
theorem Side.iown (h : Side W base S bi bn nn na fa nc fc ns fs inn near) (hn : nn ≤ 64) : W.ownsRow base 4 1 (.slice (some ⟨bi, 0, none⟩) nn nn) nn (inn.map Value.bool) :=
  ⟨by simp [h.il], .inr ⟨bi, nn, (inn.map Value.bool).toArray, rfl, h.gi, h.i, Nat.le_refl _, by unfold maxLen; omega, by simp [h.il], by rw [Nat.mul_one]; exact List.take_of_length_le (by simp [h.il])⟩⟩
theorem Side.rown (h : Side W base S bi bn nn na fa nc fc ns fs inn near) (hn : nn ≤ 64) : W.ownsRow base 4 1 (.slice (some ⟨bn, 0, none⟩) nn nn) nn (near.map Value.bool) :=
  ⟨by simp [h.nl], .inr ⟨bn, nn, (near.map Value.bool).toArray, rfl, h.gn, h.n, Nat.le_refl _, by unfold maxLen; omega, by simp [h.nl], by rw [Nat.mul_one]; exact List.take_of_length_le (by simp [h.nl])⟩⟩
end
theorem Kept.set (w : World) (b j : Nat) (u : Value) : Kept w (w.setCell ⟨b, j, none⟩ u) (fun k => k = b) := ⟨rfl, rfl, rfl, by simp [World.setCell], fun k _ q => Below.heap_setCell _ _ _ _ (by simpa using q)⟩
theorem Kept.seq {A B C : World} (h : Kept A B (fun _ => False)) (h' : Kept B C (fun _ => False)) : Kept A C (fun _ => False) := h.trans h' (fun _ _ q => q) (fun _ _ q => q)

theorem push4 {α : Type} (h : Array α) (a b c d : α) : ((((h.push a).push b).push c).push d)[h.size]? = some a ∧ ((((h.push a).push b).push c).push d)[h.size + 1]? = some b ∧ ((((h.push a).push b).push c).push d)[h.size + 1 + 1]? = some c ∧ ((((h.push a).push b).push c).push d)[h.size + 1 + 1 + 1]? = some d := by
  have p := push3 h a b c
  refine ⟨?_, ?_, ?_, ?_⟩
  · rw [Array.getElem?_push, if_neg (by simp; omega)]; exact p.1
  · rw [Array.getElem?_push, if_neg (by simp)]; exact p.2.1
  · rw [Array.getElem?_push, if_neg (by simp)]; exact p.2.2
  · rw [Array.getElem?_push, if_pos (by simp)]

/-- The search, just made. -/
theorem search_new (w : World) (A nn : Nat) (a41 a63 a66 a73 : Array Value) (h1 : a41[1]? = some (.slice (some ⟨A, 0, none⟩) nn nn)) (h2 : a63[0]? = some (.pointer (some ⟨w.heap.size, 0, none⟩))) (h3 : a66[0]? = some (.pointer (some ⟨w.heap.size + 1, 0, none⟩)))
    (z0 : a73[0]? = some (.pointer (some ⟨w.heap.size + 1 + 1, 0, none⟩))) (z2 : a73[2]? = some (.bool true)) (z10 : a73[10]? = some (.slice none 0 0)) (z15 : a73[15]? = some (.int .i64 0)) (z16 : a73[16]? = some (.bool true)) :
    Search ((((w.alloc (.cells a41 41)).alloc (.cells a63 63)).alloc (.cells a66 66)).alloc (.cells a73 73)) (w.heap.size + 1 + 1 + 1) (w.heap.size + 1 + 1) (w.heap.size + 1) w.heap.size A nn 0 ∧
      Kept w ((((w.alloc (.cells a41 41)).alloc (.cells a63 63)).alloc (.cells a66 66)).alloc (.cells a73 73)) (fun _ => False) ∧
      ((((w.alloc (.cells a41 41)).alloc (.cells a63 63)).alloc (.cells a66 66)).alloc (.cells a73 73)).heap.size = w.heap.size + 1 + 1 + 1 + 1 := by
  obtain ⟨p0, p1, p2, p3⟩ := push4 w.heap (.cells a41 41) (.cells a63 63) (.cells a66 66) (.cells a73 73)
  have hh : ((((w.alloc (.cells a41 41)).alloc (.cells a63 63)).alloc (.cells a66 66)).alloc (.cells a73 73)).heap = (((w.heap.push (.cells a41 41)).push (.cells a63 63)).push (.cells a66 66)).push (.cells a73 73) := rfl
  rw [← hh] at p0 p1 p2 p3
  refine ⟨⟨?_, ?_, ?_, ?_, ?_, ?_, ?_, ?_, ?_⟩, Kept.of_below (((((Below.refl _ w).alloc (Nat.le_refl _) _).alloc (by simp) _).alloc (by simp; omega) _).alloc (by simp; omega) _) _, by simp⟩
  · unfold World.cell?; rw [p3]; exact z0
  · unfold World.cell?; rw [p3]; exact z2
  · unfold World.cell?; rw [p3]; exact z10
  · unfold World.cell?; rw [p3]; exact z15
  · unfold World.cell?; rw [p3]; exact z16
  · unfold World.frozen?; rw [p3]; rfl
  · unfold World.cell?; rw [p2]; exact h3
  · unfold World.cell?; rw [p1]; exact h2
  · unfold World.cell?; rw [p0]; exact h1

theorem search_made (w : World) (A nn : Nat) (a41 a63 a66 a73 : Array Value) (wx : World) (hw : wx = (((w.alloc (.cells a41 41)).alloc (.cells a63 63)).alloc (.cells a66 66)).alloc (.cells a73 73)) (h1 : a41[1]? = some (.slice (some ⟨A, 0, none⟩) nn nn)) (h2 : a63[0]? = some (.pointer (some ⟨w.heap.size, 0, none⟩))) (h3 : a66[0]? = some (.pointer (some ⟨w.heap.size + 1, 0, none⟩)))
    (z0 : a73[0]? = some (.pointer (some ⟨w.heap.size + 1 + 1, 0, none⟩))) (z2 : a73[2]? = some (.bool true)) (z10 : a73[10]? = some (.slice none 0 0)) (z15 : a73[15]? = some (.int .i64 0)) (z16 : a73[16]? = some (.bool true)) :
    ∃ Z R D N, (Value.pointer (some ⟨w.heap.size + 1 + 1 + 1, 0, none⟩)) = .pointer (some ⟨Z, 0, none⟩) ∧ Search wx Z R D N A nn 0 ∧ Kept w wx (fun _ => False) ∧ w.heap.size ≤ Z ∧ w.heap.size ≤ R ∧ w.heap.size ≤ D ∧ w.heap.size ≤ N ∧ Z < wx.heap.size ∧ R < wx.heap.size ∧ D < wx.heap.size ∧ N < wx.heap.size := by
  subst hw
  have X := search_new w A nn a41 a63 a66 a73 h1 h2 h3 z0 z2 z10 z15 z16
  exact ⟨_, _, _, _, rfl, X.1, X.2.1, by omega, by omega, by omega, by omega, by rw [X.2.2]; omega, by rw [X.2.2]; omega, by rw [X.2.2]; omega, by rw [X.2.2]; omega⟩
end Go.Proofs.Ybulkozu
