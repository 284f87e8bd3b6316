/-
  SEAT b0748aF, package runtimetest: 'zzs0748bsame' (7) on a message and itself.
-/
import Derived.Test.YbulkoluFmtB3
namespace Go.Proofs.YbulkoluFmt
open Go.RowKit Go.Extern.Stop Go.Stop Go.Extern

/-- The messages that the law's lists of calls hold. -/
def okM (m : Value) : Prop :=
  (∃ i, m = .iface 31 (.agg #[.int .i64 i])) ∨ (∃ i, m = .iface 32 (.agg #[.int .i64 i])) ∨ (∃ s, m = .iface 36 (.agg #[.string s])) ∨ (∃ s, m = .iface 9 (.string s))

set_option maxRecDepth 100000 in
set_option maxHeartbeats 1000000 in
theorem same_ok (m : Value) (h : okM m) (w : World) : Calls Ybaf.prog 7 #[m, m] w fun e w' => e = .returned (.bool true) ∧ Below w.heap.size w w' := by
  have hb2 : ∀ o o' : Obj, Below w.heap.size w ((w.alloc o).alloc o') := fun o o' => ((Below.refl _ w).alloc (Nat.le_refl _) o).alloc (by simp) o'
  rcases h with ⟨i, rfl⟩ | ⟨i, rfl⟩ | ⟨s, rfl⟩ | ⟨s, rfl⟩
  · have a1 := fun w => as_hit31 (.agg #[.int .i64 i]) w
    go_enter Ybaf.func7, Ybaf.ntmps7
    go_wp2
    go_ret
    exact ⟨rfl, hb2 _ _⟩
  · have a1 := fun w => as_hit32 (.agg #[.int .i64 i]) w
    have a2 := fun w => as_miss32_31 (.agg #[.int .i64 i]) w
    go_enter Ybaf.func7, Ybaf.ntmps7
    go_wp2
    go_ret
    exact ⟨rfl, hb2 _ _⟩
  · have a1 := fun w => as_hit36 (.agg #[.string s]) w
    have a2 := fun w => as_miss36_31 (.agg #[.string s]) w
    have a3 := fun w => as_miss36_32 (.agg #[.string s]) w
    go_enter Ybaf.func7, Ybaf.ntmps7
    go_wp2
    go_ret
    exact ⟨rfl, hb2 _ _⟩
  · have a1 := fun w => as_hit9 (.string s) w
    have a2 := fun w => as_miss9_31 (.string s) w
    have a3 := fun w => as_miss9_32 (.string s) w
    have a4 := fun w => as_miss9_36 (.string s) w
    go_enter Ybaf.func7, Ybaf.ntmps7
    go_wp2
    go_ret
    exact ⟨rfl, Below.refl _ _⟩
end Go.Proofs.YbulkoluFmt
