/-
  SEAT b0774a: 'newCutSide' (5).
-/
import Derived.Test.YbulkozuLib
import Derived.Laws.MakeOwn
namespace Go.Proofs.Ybulkozu
open Go.RowKit

theorem made_one (u : Value) (n : Nat) : madeCells #[u] n = (List.replicate n u).toArray := by
  apply Array.ext
  · simp [madeCells]
  · intro i h1 h2
    simp [madeCells, Nat.mod_one]

theorem make29 (nn : Nat) (h1 : nn ≤ 64) (w : World) : (Instr.makeSlice 29 (.int .i64 nn) (.int .i64 nn)).run Yba.prog w = .ok (.slice (some ⟨w.heap.size, 0, none⟩) nn nn) (w.alloc (.cells ((List.replicate nn false).map Value.bool).toArray 4)) := by
  obtain ⟨i0, hi, hz0, hz1, hz2⟩ := info_parts Yba.info4
  have := run_make (P := Yba.prog) w 29 4 i0 (.bool false) Yba.underlying29 hi hz0 .i64 .i64 nn nn (by omega) (by omega) (by rw [hz2]; omega) (by omega)
  rw [this, hz1]
  simp only [Int.toNat_natCast, Nat.mul_one, List.map_replicate]
  rw [show (Value.bool false).cells = #[.bool false] from rfl, made_one]
theorem make24 (nn : Nat) (h1 : nn ≤ 64) (w : World) : (Instr.makeSlice 24 (.int .i64 nn) (.int .i64 nn)).run Yba.prog w = .ok (.slice (some ⟨w.heap.size, 0, none⟩) nn nn) (w.alloc (.cells (List.replicate nn (Value.slice none 0 0)).toArray 28)) := by
  obtain ⟨i0, hi, hz0, hz1, hz2⟩ := info_parts (show (Yba.prog.info? 28).map (fun i => (i.zero, i.size, i.bytes)) = some (some (.slice none 0 0), 1, 24) by kernel_rfl)
  have := run_make (P := Yba.prog) w 24 28 i0 (.slice none 0 0) Yba.underlying24 hi hz0 .i64 .i64 nn nn (by omega) (by omega) (by rw [hz2]; omega) (by omega)
  rw [this, hz1]
  simp only [Int.toNat_natCast, Nat.mul_one]
  rw [show (Value.slice none 0 0).cells = #[.slice none 0 0] from rfl, made_one]

theorem push3 {α : Type} (h : Array α) (a b c : α) : (((h.push a).push b).push c)[h.size]? = some a ∧ (((h.push a).push b).push c)[h.size + 1]? = some b ∧ (((h.push a).push b).push c)[h.size + 1 + 1]? = some c := by
  refine ⟨?_, ?_, ?_⟩
  · rw [Array.getElem?_push, if_neg (by simp; omega), Array.getElem?_push, if_neg (by simp), Array.getElem?_push, if_pos rfl]
  · rw [Array.getElem?_push, if_neg (by simp), Array.getElem?_push, if_pos (by simp)]
  · rw [Array.getElem?_push, if_pos (by simp)]
theorem side_new (W : World) (nn bi bn : Nat) (hb : (bi = W.heap.size ∧ bn = W.heap.size + 1) ∨ (bi = W.heap.size + 1 ∧ bn = W.heap.size)) (M : Array Value) (hM : M = ((List.replicate nn false).map Value.bool).toArray) :
    Side (((W.alloc (.cells M 4)).alloc (.cells M 4)).alloc (.cells #[.slice none 0 0, .slice (some ⟨bi, 0, none⟩) nn nn, .slice (some ⟨bn, 0, none⟩) nn nn, .slice none 0 0] 31)).drew W.heap.size (W.heap.size + 1 + 1) bi bn nn none none 0 0 [] [] (List.replicate nn false) (List.replicate nn false) ∧
      Kept W (((W.alloc (.cells M 4)).alloc (.cells M 4)).alloc (.cells #[.slice none 0 0, .slice (some ⟨bi, 0, none⟩) nn nn, .slice (some ⟨bn, 0, none⟩) nn nn, .slice none 0 0] 31)).drew (fun _ => False) := by
  have hh : ∀ o, (((W.alloc (.cells M 4)).alloc (.cells M 4)).alloc o).drew.heap = ((W.heap.push (.cells M 4)).push (.cells M 4)).push o := fun _ => rfl
  refine ⟨⟨?_, ?_, ?_, by simp, by simp, World.ownsRow_nil _ _ _ _, World.ownsRow_nil _ _ _ _, by omega, ?_, by omega, by omega, by omega, ?_⟩, ?_⟩
  · rw [hh, (push3 _ _ _ _).2.2]; rfl
  · rw [hh, ← hM]; rcases hb with ⟨rfl, rfl⟩ | ⟨rfl, rfl⟩
    · rw [(push3 _ _ _ _).1]
    · rw [(push3 _ _ _ _).2.1]
  · rw [hh, ← hM]; rcases hb with ⟨rfl, rfl⟩ | ⟨rfl, rfl⟩
    · rw [(push3 _ _ _ _).2.1]
    · rw [(push3 _ _ _ _).1]
  · intro k q; simp [Value.ownBlock] at q
  · rw [hh]; simp; omega
  · exact (Kept.of_below (((((Below.refl _ W).alloc (Nat.le_refl _) _).alloc (by simp) _).alloc (by simp; omega) _)) _).drew

set_option maxRecDepth 100000 in
theorem new_side (W : World) (nn : Nat) (h1 : nn ≤ 64) :
    Calls Yba.prog 5 #[.int .i64 nn] W fun e w' => ∃ S bi bn, e = .returned (.pointer (some ⟨S, 0, none⟩)) ∧ Side w' W.heap.size S bi bn nn none none 0 0 [] [] (List.replicate nn false) (List.replicate nn false) ∧ Kept W w' (fun _ => False) := by
  have hmk := make29 nn h1
  obtain ⟨M, hM⟩ : ∃ M, M = ((List.replicate nn false).map Value.bool).toArray := ⟨_, rfl⟩
  rw [← hM] at hmk
  have HM : Hid _ := hM
  clear hM
  go_enter Yba.func5, Yba.ntmps5
  go_wp2_with fail
  go_region
  all_goals go_wp2_with fail
  all_goals go_ret
  · exact ⟨_, _, _, rfl, side_new W nn _ _ (.inl ⟨rfl, rfl⟩) M HM.out⟩
  · exact ⟨_, _, _, rfl, side_new W nn _ _ (.inr ⟨rfl, rfl⟩) M HM.out⟩
end Go.Proofs.Ybulkozu
