/-
  SEAT b0748aF: the walk of 'termination.LawS0748CEngaged' (5).
-/
import Derived.Test.YbulkoluFmtStart
namespace Go.Proofs.YbulkoluFmt
open Go.RowKit

set_option maxRecDepth 100000 in
set_option maxHeartbeats 1000000 in
/-- Nothing is to be sent. -/
theorem eng_quiet (a0 a1 : ByteArray) (a2 : Bool) (a3 a4 a5 a6 : Int) (w : World) (hq : 0 < a6 ∨ (a6 ≤ 0 ∧ a2 = false)) :
    Calls Ybaf.prog 5 #[.string a0, .string a1, .bool a2, .int .i64 a3, .int .i64 a4, .int .i64 a5, .int .i64 a6] w fun e w' => e = .returned (.bool true) ∧ Below w.heap.size w w' := by
  have hne := neq62
  have hb : ∀ o0 o1 o2 : Obj, Below w.heap.size w (((w.alloc o0).alloc o1).alloc o2).drew.drew.drew.drew := fun o0 o1 o2 => (((((((Below.refl _ w).alloc (Nat.le_refl _) o0).alloc (by simp) o1).alloc (by simp; omega) o2).drew).drew).drew).drew
  rcases (show (0 < a6 ∧ a2 = true) ∨ (0 < a6 ∧ a2 = false) ∨ (a6 ≤ 0 ∧ a2 = false) from by cases a2 <;> simp_all <;> omega) with ⟨h, rfl⟩ | ⟨h, rfl⟩ | ⟨h, rfl⟩
  all_goals
    go_enter Ybaf.func5, Ybaf.ntmps5
    go_wp2_with (first | (go_at_call 10; refine (start_quiet w a3 a6 a4 a5 _ _ a0 _ _ _ _ _ _ _ hq).mono ?_; rintro e w' ⟨rfl, rfl⟩) | go_in)
    go_region
    all_goals go_wp2
    all_goals (go_ret; exact ⟨rfl, hb _ _ _⟩)

/-- What lies in memory when one signal has gone to the father. -/
structure SigDone (w : World) (a0 a1 : ByteArray) (t want : Int) (g cap : Nat) (w' : World) : Prop where
  below : Below w.heap.size w w'
  starts : w'.cell? ⟨w.heap.size, 1, none⟩ = some (.int .i64 1)
  name : w'.cell? ⟨w.heap.size, 2, none⟩ = some (.string a0)
  got : w'.cell? ⟨w.heap.size, 3, none⟩ = some (.iface 62 (.pointer (some ⟨w.heap.size + 1, 8, none⟩)))
  engaged : w'.cell? ⟨w.heap.size + 1, 2, none⟩ = some (.bool false)
  term : w'.cell? ⟨w.heap.size + 1, 5, none⟩ = some (.int .i64 t)
  sum : w'.cell? ⟨w.heap.size + 1, 6, none⟩ = some (.int .i64 0)
  messages : w'.cell? ⟨w.heap.size + 1, 10, none⟩ = some (.int .i64 0)
  signals : w'.cell? ⟨w.heap.size + 1, 11, none⟩ = some (.int .i64 1)
  sends : w'.cell? ⟨w.heap.size + 1 + 1, 1, none⟩ = some (.slice (some ⟨g, 0, none⟩) 1 cap)
  to_ : w'.cell? ⟨g, 0, none⟩ = some (.string a1)
  sum_ : w'.cell? ⟨g, 1, none⟩ = some (.int .i64 want)
  ok_ : w'.cell? ⟨g, 2, none⟩ = some (.bool true)
  lt_g : g < w'.heap.size
  lt_e : w.heap.size + 1 + 1 < w'.heap.size

theorem sigDone_of {w w1 : World} {a0 a1 : ByteArray} {t want : Int} {D0 D1 D3 D4 D7 D8 D9 I0 : Value} {S1 : Value}
    (hS : Sent (((w.alloc (.cells #[I0, .int .i64 1, .string a0, .iface 62 (.pointer (some ⟨w.heap.size + 1, 8, none⟩))] 44)).alloc (.cells #[D0, D1, .bool true, D3, D4, .int .i64 t, .int .i64 0, D7, D8, D9, .int .i64 0, .int .i64 1] 56)).alloc (.cells #[.string a0, S1] 60)).drew.drew.drew (w.heap.size + 1 + 1) a1 want w1) :
    ∃ g cap, SigDone w a0 a1 t want g cap (w1.setCell ⟨w.heap.size + 1, 2, none⟩ (.bool false)) := by
  obtain ⟨w2, g, cap, B, hown, rfl⟩ := hS
  have hg := hown.lt g rfl
  have hsz : w.heap.size + 1 + 1 < w2.heap.size := by have := B.size; simp [World.drew] at this; omega
  have hgb : w.heap.size + 1 + 1 < g := by have := hg.1; simp [World.drew] at this; omega
  have old : ∀ b j v, b < w.heap.size + 1 + 1 + 1 → (b ≠ w.heap.size + 1 + 1 ∨ j ≠ 1) → (b ≠ w.heap.size + 1 ∨ j ≠ 2) →
      (((w.alloc (.cells #[I0, .int .i64 1, .string a0, .iface 62 (.pointer (some ⟨w.heap.size + 1, 8, none⟩))] 44)).alloc (.cells #[D0, D1, .bool true, D3, D4, .int .i64 t, .int .i64 0, D7, D8, D9, .int .i64 0, .int .i64 1] 56)).alloc (.cells #[.string a0, S1] 60)).drew.drew.drew.cell? ⟨b, j, none⟩ = some v →
      ((w2.setCell ⟨w.heap.size + 1 + 1, 1, none⟩ (.slice (some ⟨g, 0, none⟩) 1 cap)).setCell ⟨w.heap.size + 1, 2, none⟩ (.bool false)).cell? ⟨b, j, none⟩ = some v := by
    intro b j v hb h1 h2 h
    rw [World.cell?_setCell_other _ _ _ _ (by simp only [ne_eq, Addr.mk.injEq, and_true]; omega), World.cell?_setCell_other _ _ _ _ (by simp only [ne_eq, Addr.mk.injEq, and_true]; omega)]
    exact (B.cell (p := ⟨b, j, none⟩) (by simp [World.drew]; omega)).trans h
  have new : ∀ j v, [Value.string a1, .int .i64 want, .bool true][j]? = some v → ((w2.setCell ⟨w.heap.size + 1 + 1, 1, none⟩ (.slice (some ⟨g, 0, none⟩) 1 cap)).setCell ⟨w.heap.size + 1, 2, none⟩ (.bool false)).cell? ⟨g, j, none⟩ = some v := by
    intro j v h
    have hj : j < 3 := (List.getElem?_eq_some_iff.1 h).1
    rw [World.cell?_setCell_other _ _ _ _ (by simp only [ne_eq, Addr.mk.injEq, and_true]; omega), World.cell?_setCell_other _ _ _ _ (by simp only [ne_eq, Addr.mk.injEq, and_true]; omega)]
    rw [hown.cellAt j (by omega)]
    exact h
  have c2 : w2.cell? ⟨w.heap.size + 1, 2, none⟩ = some (.bool true) := (B.cell (p := ⟨w.heap.size + 1, 2, none⟩) (by simp [World.drew])).trans (by go_simp)
  have c1 : w2.cell? ⟨w.heap.size + 1 + 1, 1, none⟩ = some S1 := (B.cell (p := ⟨w.heap.size + 1 + 1, 1, none⟩) (by simp [World.drew])).trans (by go_simp)
  have B0 : Below w.heap.size w w2 := ((((((Below.refl _ w).alloc (Nat.le_refl _) _).alloc (by simp) _).alloc (by simp; omega) _).drew).drew.drew).trans (B.mono (by simp [World.drew]; omega))
  refine ⟨g, cap, (B0.setCell (by simp; omega) _).setCell (by simp) _, old _ _ _ (by omega) (by omega) (by omega) (by go_simp), old _ _ _ (by omega) (by omega) (by omega) (by go_simp), old _ _ _ (by omega) (by omega) (by omega) (by go_simp), ?_, old _ _ _ (by omega) (by omega) (by omega) (by go_simp), old _ _ _ (by omega) (by omega) (by omega) (by go_simp), old _ _ _ (by omega) (by omega) (by omega) (by go_simp), old _ _ _ (by omega) (by omega) (by omega) (by go_simp), ?_, new 0 _ rfl, new 1 _ rfl, new 2 _ rfl, ?_, ?_⟩
  · exact World.cell?_setCell_same _ _ _ ((World.cell?_setCell_other _ _ _ _ (by simp)).trans c2)
  · exact (World.cell?_setCell_other _ _ _ _ (by simp)).trans (World.cell?_setCell_same _ _ _ c1)
  · simpa [World.setCell] using hg.2
  · simpa [World.setCell] using hsz

set_option maxRecDepth 100000 in
set_option maxHeartbeats 1000000 in
/-- One signal goes to the father. -/
theorem eng_sig (a0 a1 : ByteArray) (a3 a4 a5 a6 : Int) (w : World) (hd : a6 ≤ 0) :
    Calls Ybaf.prog 5 #[.string a0, .string a1, .bool true, .int .i64 a3, .int .i64 a4, .int .i64 a5, .int .i64 a6] w fun e w' => e = .returned (.bool true) ∧ Below w.heap.size w w' := by
  have hne := neq62
  go_enter Ybaf.func5, Ybaf.ntmps5
  go_wp2_with (first | (go_at_call 10; refine (start_sig w a1 a3 a6 a4 a5 _ a0 _ _ _ _ hd).mono ?_) | go_in)
  rintro e w' ⟨rfl, w1, hS, hw⟩
  obtain ⟨g, cap, hD⟩ := sigDone_of hS
  rw [← hw] at hD
  clear hS hw
  obtain ⟨bl, k1, k2, k3, k4, k5, k6, k7, k8, k9, k10, k11, k12, l1, l2⟩ := hD
  have l3 : w.heap.size + 1 < w'.heap.size := by omega
  have hb : ∀ o : Obj, Below w.heap.size w (w'.alloc o).drew := fun o => (bl.alloc bl.size o).drew
  go_wp2
  go_region
  all_goals go_wp2
  all_goals (go_ret; exact ⟨rfl, hb _⟩)
end Go.Proofs.YbulkoluFmt
