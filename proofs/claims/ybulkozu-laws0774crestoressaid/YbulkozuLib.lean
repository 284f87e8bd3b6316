/-
  SEAT b0774a: 'slices.Clone' and 'slices.Equal' at int32 and at bool.
-/
import Derived.Test.YbulkozuK4
import Derived.RegionTactic
import Derived.ChangeAlike
import Derived.Laws.Cover3
import Derived.Laws.OwnMore
namespace Go.Proofs.Ybulkozu
open Go.RowKit

theorem Yba.info4 : (Yba.prog.info? 4).map (fun i => (i.zero, i.size, i.bytes)) = some (some (.bool false), 1, 1) := by kernel_rfl

theorem eqnil {t e : TypeId} (a : Option Addr) (n c : Nat) (h : Yba.prog.underlying t = some (.slice e)) (w : World) : (binOp .eql t (.slice a n c) (.slice none 0 0)).run Yba.prog w = .ok (.bool a.isNone) w := by
  simp [binOp, go_sem, run_equal_slice_nil (P := Yba.prog) w t e a n c h, Result.andThen]
theorem own_fresh (w : World) (e : TypeId) : (w.alloc (.cells #[] e)).ownsRow w.heap.size e 1 (.slice (some ⟨w.heap.size, 0, none⟩) 0 0) 0 [] :=
  ⟨rfl, .inr ⟨w.heap.size, 0, #[], rfl, Nat.le_refl _, by show (w.heap.push _)[w.heap.size]? = _; simp, Nat.le_refl _, by unfold maxLen; omega, rfl, rfl⟩⟩
theorem map_one {α : Type} (f : α → Value) (hf : ∀ x, (f x).oneCell' = true) (xs : List α) : ∀ u ∈ xs.map f, u.oneCell' = true := by
  intro u hu
  obtain ⟨x, _, rfl⟩ := List.mem_map.mp hu
  exact hf x
theorem cells_alloc {w : World} {b e n c g : Nat} {xs : List Value} (h : w.ownsRow b e 1 (.slice (some ⟨g, 0, none⟩) n c) n xs) (o : Obj) : ∀ j u, xs[j]? = some u → (w.alloc o).cell? ((⟨g, 0, none⟩ : Addr).add j) = some u := (h.alloc o).cells rfl
theorem small_a0 {n : Nat} (h : n ≤ 8000000) : 0 + n ≤ maxLen := by unfold maxLen; omega
theorem small_b0 {n m : Nat} (h : n ≤ 8000000) (hm : m ≤ 4) : (0 + n) * m ≤ 140737488355328 := by
  have : (0 + n) * m ≤ 8000000 * 4 := Nat.mul_le_mul (by omega) hm
  omega
theorem le_alloc0 (w : World) (o : Obj) : w.heap.size ≤ (w.alloc o).heap.size := by simp
theorem clone_kept {w w' : World} {o : Obj} {r : Option Nat} (hr : ∀ k, r = some k → w.heap.size ≤ k) (g : (w.alloc o).grownBy w' r) : Kept w w' (fun _ => False) :=
  Kept.of_below (((Below.refl _ w).alloc (Nat.le_refl _) o).grown g (by simp) hr) _

set_option maxRecDepth 100000 in
theorem clone32 (w : World) (b n c : Nat) (a : Option Addr) (xs : List Int) (h : w.ownsRow b 21 1 (.slice a n c) n (xs.map (Value.int .i32))) (hn : n ≤ 8000000) :
    Calls Yba.prog 7 #[.slice a n c] w fun e w' => ∃ a' c', e = .returned (.slice a' n c') ∧ w'.ownsRow w.heap.size 21 1 (.slice a' n c') n (xs.map (Value.int .i32)) ∧ Kept w w' (fun _ => False) := by
  obtain ⟨i0, hi, hz0, hz1, hz2⟩ := info_parts Yba.info21
  have q := eqnil (e := 21) a n c Yba.underlying28
  rcases own_look h with ⟨rfl, rfl, rfl⟩ | ⟨g, rfl, hnc, hc⟩
  · go_enter Yba.func7, Yba.ntmps7
    go_wp2
    go_ret
    have : xs.map (Value.int .i32) = [] := List.eq_nil_of_length_eq_zero (by simpa using h.1)
    rw [this]
    exact ⟨none, 0, rfl, World.ownsRow_nil _ _ _ _, Kept.refl _ _⟩
  · go_enter Yba.func7, Yba.ntmps7
    go_wp2_with (at_builtin; refine wpList_append_fresh _ rfl (.tmp 5) (.tmp 6) 28 rfl w.heap.size 21 i0 (.int .i32 0) 1 4 Yba.underlying28 hi hz0 hz1 hz2 rfl (by decide) (.slice (some ⟨w.heap.size, 0, none⟩) 0 0) 0 [] rfl (own_fresh w 21) ⟨g, 0, none⟩ n c (xs.map (Value.int .i32)) rfl h.1 (cells_alloc h _) (map_one _ (fun _ => rfl) _) (small_a0 hn) (small_b0 hn (by decide)) (le_alloc0 _ _) ?_)
    intro v' w1 hown hgrow hfr
    obtain ⟨a', c', rfl⟩ := row_form hown
    go_wp2
    go_ret
    exact ⟨a', c', rfl, hown, clone_kept (fun k q => by simp [Value.ownBlock] at q; omega) hgrow⟩

set_option maxRecDepth 100000 in
theorem cloneB (w : World) (b n c : Nat) (a : Option Addr) (xs : List Bool) (h : w.ownsRow b 4 1 (.slice a n c) n (xs.map Value.bool)) (hn : n ≤ 8000000) :
    Calls Yba.prog 8 #[.slice a n c] w fun e w' => ∃ a' c', e = .returned (.slice a' n c') ∧ w'.ownsRow w.heap.size 4 1 (.slice a' n c') n (xs.map Value.bool) ∧ Kept w w' (fun _ => False) := by
  obtain ⟨i0, hi, hz0, hz1, hz2⟩ := info_parts Yba.info4
  have q := eqnil (e := 4) a n c Yba.underlying29
  rcases own_look h with ⟨rfl, rfl, rfl⟩ | ⟨g, rfl, hnc, hc⟩
  · go_enter Yba.func8, Yba.ntmps8
    go_wp2
    go_ret
    have : xs.map Value.bool = [] := List.eq_nil_of_length_eq_zero (by simpa using h.1)
    rw [this]
    exact ⟨none, 0, rfl, World.ownsRow_nil _ _ _ _, Kept.refl _ _⟩
  · go_enter Yba.func8, Yba.ntmps8
    go_wp2_with (at_builtin; refine wpList_append_fresh _ rfl (.tmp 5) (.tmp 6) 29 rfl w.heap.size 4 i0 (.bool false) 1 1 Yba.underlying29 hi hz0 hz1 hz2 rfl (by decide) (.slice (some ⟨w.heap.size, 0, none⟩) 0 0) 0 [] rfl (own_fresh w 4) ⟨g, 0, none⟩ n c (xs.map Value.bool) rfl h.1 (cells_alloc h _) (map_one _ (fun _ => rfl) _) (small_a0 hn) (small_b0 hn (by decide)) (le_alloc0 _ _) ?_)
    intro v' w1 hown hgrow hfr
    obtain ⟨a', c', rfl⟩ := row_form hown
    go_wp2
    go_ret
    exact ⟨a', c', rfl, hown, clone_kept (fun k q => by simp [Value.ownBlock] at q; omega) hgrow⟩


set_option maxRecDepth 100000 in
theorem equal32 (w : World) (b1 b2 n c d : Nat) (a a' : Option Addr) (xs : List Int) (h : w.ownsRow b1 21 1 (.slice a n c) n (xs.map (Value.int .i32))) (h' : w.ownsRow b2 21 1 (.slice a' n d) n (xs.map (Value.int .i32))) (hn : n ≤ 8000000) :
    Calls Yba.prog 10 #[.slice a n c, .slice a' n d] w fun e w' => e = .returned (.bool true) ∧ Kept w w' (fun _ => False) := by
  have hxl : xs.length = n := by simpa using h.1
  go_enter Yba.func10, Yba.ntmps10
  go_wp2_with fail
  go_loopw [5, 13] (fun _ k wr => ∃ j : Nat, j ≤ n ∧ k = .int .i64 j ∧ Kept w wr (fun _ => False)) (fun _ k _ => n - (intOf k).toNat)
  case atStart => exact ⟨0, Nat.zero_le _, rfl, Kept.refl _ _⟩
  case round =>
    obtain ⟨j, hj, rfl, K⟩ := hrel
    by_cases hlt : j < n
    · obtain ⟨g, rfl⟩ : ∃ g, a = some ⟨g, 0, none⟩ := by
        rcases own_look h with ⟨_, _, _⟩ | ⟨g, rfl, _, _⟩
        · omega
        · exact ⟨g, rfl⟩
      obtain ⟨g', rfl⟩ : ∃ g, a' = some ⟨g, 0, none⟩ := by
        rcases own_look h' with ⟨_, _, _⟩ | ⟨g, rfl, _, _⟩
        · omega
        · exact ⟨g, rfl⟩
      obtain ⟨x, hx⟩ : ∃ x, x = xs.getD j 0 := ⟨_, rfl⟩
      have e1 : wr.cell? ⟨g, j, none⟩ = some (.int .i32 x) := by
        rw [K.cell (p := ⟨g, j, none⟩) (h.lt g rfl).2 (by simp), h.cellAt j (by omega), hx]
        simp [List.getD, hxl, hlt]
      have e2 : wr.cell? ⟨g', j, none⟩ = some (.int .i32 x) := by
        rw [K.cell (p := ⟨g', j, none⟩) (h'.lt g' rfl).2 (by simp), h'.cellAt j (by omega), hx]
        simp [List.getD, hxl, hlt]
      clear hx h h' hxl
      go_wp2_with fail
      go_region
      go_wp2_with fail
      go_roundw
      case rel => exact ⟨j + 1, by omega, by go_num, K.drew⟩
      case measure => simp [intOf]; omega
    · go_wp2
      go_ret
      exact ⟨rfl, K⟩


set_option maxRecDepth 100000 in
theorem equalB (w : World) (b1 b2 n c d : Nat) (a a' : Option Addr) (xs : List Bool) (h : w.ownsRow b1 4 1 (.slice a n c) n (xs.map Value.bool)) (h' : w.ownsRow b2 4 1 (.slice a' n d) n (xs.map Value.bool)) (hn : n ≤ 8000000) :
    Calls Yba.prog 11 #[.slice a n c, .slice a' n d] w fun e w' => e = .returned (.bool true) ∧ Kept w w' (fun _ => False) := by
  have hxl : xs.length = n := by simpa using h.1
  go_enter Yba.func11, Yba.ntmps11
  go_wp2_with fail
  go_loopw [5, 13] (fun _ k wr => ∃ j : Nat, j ≤ n ∧ k = .int .i64 j ∧ Kept w wr (fun _ => False)) (fun _ k _ => n - (intOf k).toNat)
  case atStart => exact ⟨0, Nat.zero_le _, rfl, Kept.refl _ _⟩
  case round =>
    obtain ⟨j, hj, rfl, K⟩ := hrel
    by_cases hlt : j < n
    · obtain ⟨g, rfl⟩ : ∃ g, a = some ⟨g, 0, none⟩ := by
        rcases own_look h with ⟨_, _, _⟩ | ⟨g, rfl, _, _⟩
        · omega
        · exact ⟨g, rfl⟩
      obtain ⟨g', rfl⟩ : ∃ g, a' = some ⟨g, 0, none⟩ := by
        rcases own_look h' with ⟨_, _, _⟩ | ⟨g, rfl, _, _⟩
        · omega
        · exact ⟨g, rfl⟩
      obtain ⟨x, hx⟩ : ∃ x, x = xs.getD j false := ⟨_, rfl⟩
      have e1 : wr.cell? ⟨g, j, none⟩ = some (.bool x) := by
        rw [K.cell (p := ⟨g, j, none⟩) (h.lt g rfl).2 (by simp), h.cellAt j (by omega), hx]
        simp [List.getD, hxl, hlt]
      have e2 : wr.cell? ⟨g', j, none⟩ = some (.bool x) := by
        rw [K.cell (p := ⟨g', j, none⟩) (h'.lt g' rfl).2 (by simp), h'.cellAt j (by omega), hx]
        simp [List.getD, hxl, hlt]
      clear hx h h' hxl
      go_wp2_with fail
      go_region
      go_wp2_with fail
      go_roundw
      case rel => exact ⟨j + 1, by omega, by go_num, K.drew⟩
      case measure => simp [intOf]; omega
    · go_wp2
      go_ret
      exact ⟨rfl, K⟩

end Go.Proofs.Ybulkozu
