/-
  SEAT b0748aF: the walk of 'termination.LawS0748CInitiator' (4).
-/
import Derived.Test.YbulkoluFmtInit2
namespace Go.Proofs.YbulkoluFmt
open Go.RowKit

set_option maxRecDepth 100000 in
set_option maxHeartbeats 1000000 in
/-- A deficit remains: nothing is announced. -/
theorem ini_quiet (a0 : ByteArray) (a1 a2 a3 a4 : Int) (w : World) (hd : 0 < a4) :
    Calls Ybaf.prog 4 #[.string a0, .int .i64 a1, .int .i64 a2, .int .i64 a3, .int .i64 a4] w fun e w' => e = .returned (.bool true) ∧ Below w.heap.size w w' := by
  have hne := neq62
  have hb : ∀ o0 o1 o2 o3 : Obj, Below w.heap.size w ((((w.alloc o0).alloc o1).alloc o2).alloc o3).drew.drew.drew.drew := fun o0 o1 o2 o3 => ((((((((Below.refl _ w).alloc (Nat.le_refl _) o0).alloc (by simp) o1).alloc (by simp; omega) o2).alloc (by simp; omega) o3).drew).drew).drew).drew
  go_enter Ybaf.func4, Ybaf.ntmps4
  go_wp2_with (first | (go_at_call 10; refine (start_i_quiet w a1 a4 a2 a3 _ a0 _ _ _ _ _ _ _ _ _ hd).mono ?_; rintro e w' ⟨rfl, rfl⟩) | go_in)
  go_region
  all_goals go_wp2
  all_goals (go_ret; exact ⟨rfl, hb _ _ _ _⟩)

/-- What lies in memory when the sum has been announced. -/
structure AnnDone (w : World) (a0 : ByteArray) (t want : Int) (g cap : Nat) (w' : World) : Prop where
  below : Below w.heap.size w w'
  starts : w'.cell? ⟨w.heap.size, 1, none⟩ = some (.int .i64 1)
  name : w'.cell? ⟨w.heap.size, 2, none⟩ = some (.string a0)
  got : w'.cell? ⟨w.heap.size, 3, none⟩ = some (.iface 62 (.pointer (some ⟨w.heap.size + 1 + 1, 8, none⟩)))
  term : w'.cell? ⟨w.heap.size + 1 + 1, 5, none⟩ = some (.int .i64 t)
  sum : w'.cell? ⟨w.heap.size + 1 + 1, 6, none⟩ = some (.int .i64 want)
  messages : w'.cell? ⟨w.heap.size + 1 + 1, 10, none⟩ = some (.int .i64 0)
  signals : w'.cell? ⟨w.heap.size + 1 + 1, 11, none⟩ = some (.int .i64 0)
  sends : w'.cell? ⟨w.heap.size + 1 + 1 + 1, 1, none⟩ = some (.slice none 0 0)
  told : w'.cell? ⟨w.heap.size + 1, 0, none⟩ = some (.slice (some ⟨g, 0, none⟩) 1 cap)
  what : w'.cell? ⟨g, 0, none⟩ = some (.int .i64 want)

theorem annDone_of {w w' : World} {a0 : ByteArray} {t want : Int} {D0 D1 D2 D3 D4 D7 D8 D9 I0 : Value}
    (hT : Told ((((w.alloc (.cells #[I0, .int .i64 1, .string a0, .iface 62 (.pointer (some ⟨w.heap.size + 1 + 1, 8, none⟩))] 44)).alloc (.cells #[.slice none 0 0] 45)).alloc (.cells #[D0, D1, D2, D3, D4, .int .i64 t, .int .i64 want, D7, D8, D9, .int .i64 0, .int .i64 0] 56)).alloc (.cells #[.string a0, .slice none 0 0] 60)).drew.drew.drew.drew (w.heap.size + 1) want w') :
    ∃ g cap, AnnDone w a0 t want g cap w' := by
  obtain ⟨w2, g, cap, B, hown, rfl⟩ := hT
  have hg := hown.lt g rfl
  have hgb : w.heap.size + 1 + 1 + 1 < g := by have := hg.1; simp [World.drew] at this; omega
  have old : ∀ b j v, b < w.heap.size + 1 + 1 + 1 + 1 → (b ≠ w.heap.size + 1) →
      ((((w.alloc (.cells #[I0, .int .i64 1, .string a0, .iface 62 (.pointer (some ⟨w.heap.size + 1 + 1, 8, none⟩))] 44)).alloc (.cells #[.slice none 0 0] 45)).alloc (.cells #[D0, D1, D2, D3, D4, .int .i64 t, .int .i64 want, D7, D8, D9, .int .i64 0, .int .i64 0] 56)).alloc (.cells #[.string a0, .slice none 0 0] 60)).drew.drew.drew.drew.cell? ⟨b, j, none⟩ = some v →
      (w2.setCell ⟨w.heap.size + 1, 0, none⟩ (.slice (some ⟨g, 0, none⟩) 1 cap)).cell? ⟨b, j, none⟩ = some v := by
    intro b j v hb h1 h
    rw [World.cell?_setCell_other _ _ _ _ (by simp only [ne_eq, Addr.mk.injEq, and_true]; omega)]
    exact (B.cell (p := ⟨b, j, none⟩) (by simp [World.drew]; omega)).trans h
  have c1 : w2.cell? ⟨w.heap.size + 1, 0, none⟩ = some (.slice none 0 0) := (B.cell (p := ⟨w.heap.size + 1, 0, none⟩) (by simp [World.drew])).trans (by go_simp)
  have B0 : Below w.heap.size w w2 := (((((((Below.refl _ w).alloc (Nat.le_refl _) _).alloc (by simp) _).alloc (by simp; omega) _).alloc (by simp; omega) _).drew).drew.drew.drew).trans (B.mono (by simp [World.drew]; omega))
  refine ⟨g, cap, B0.setCell (by simp) _, old _ _ _ (by omega) (by omega) (by go_simp), old _ _ _ (by omega) (by omega) (by go_simp), old _ _ _ (by omega) (by omega) (by go_simp), old _ _ _ (by omega) (by omega) (by go_simp), old _ _ _ (by omega) (by omega) (by go_simp), old _ _ _ (by omega) (by omega) (by go_simp), old _ _ _ (by omega) (by omega) (by go_simp), old _ _ _ (by omega) (by omega) (by go_simp), ?_, ?_⟩
  · exact World.cell?_setCell_same _ _ _ c1
  · rw [World.cell?_setCell_other _ _ _ _ (by simp only [ne_eq, Addr.mk.injEq, and_true]; omega), hown.cellAt 0 (by omega)]
    rfl

set_option maxRecDepth 100000 in
set_option maxHeartbeats 1000000 in
/-- No deficit remains: the sum is announced once. -/
theorem ini_ann (a0 : ByteArray) (a1 a2 a3 a4 : Int) (w : World) (hd : a4 ≤ 0) :
    Calls Ybaf.prog 4 #[.string a0, .int .i64 a1, .int .i64 a2, .int .i64 a3, .int .i64 a4] w fun e w' => e = .returned (.bool true) ∧ Below w.heap.size w w' := by
  have hne := neq62
  go_enter Ybaf.func4, Ybaf.ntmps4
  go_wp2_with (first | (go_at_call 10; refine (start_i_ann w a1 a4 a2 a3 _ a0 _ _ _ _ _ _ _ hd).mono ?_) | go_in)
  rintro e w' ⟨rfl, hT⟩
  obtain ⟨g, cap, hD⟩ := annDone_of hT
  clear hT
  obtain ⟨bl, k1, k2, k3, k4, k5, k6, k7, k8, k9, k10⟩ := hD
  go_wp2
  go_region
  all_goals go_wp2
  all_goals (go_ret; exact ⟨rfl, bl.drew⟩)
end Go.Proofs.YbulkoluFmt
