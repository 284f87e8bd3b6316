/-
  SEAT b0748aF, package termination: '(*Diffusion).Start' for 'LawS0748CEngaged'.
-/
import Derived.Test.YbulkoluFmtTerm
namespace Go.Proofs.YbulkoluFmt
open Go.RowKit

set_option maxHeartbeats 400000 in
/-- (*Diffusion).Start where nothing is to be sent. -/
theorem start_quiet (w : World) (t defi term sum : Int) (eng : Bool) (nm name : ByteArray) (D3 D7 D8 D9 D10 D11 sl : Value) (hq : 0 < defi ∨ (defi ≤ 0 ∧ eng = false)) :
    Calls Ybaf.prog 10 #[.pointer (some ⟨w.heap.size + 1, 0, none⟩), .iface 57 (.pointer (some ⟨w.heap.size + 1 + 1, 0, none⟩))]
      (((w.alloc (.cells #[.int .i64 t, .int .i64 0, .string nm, .nilIface] 44)).alloc (.cells #[.iface 40 (.pointer (some ⟨w.heap.size, 0, none⟩)), .bool false, .bool eng, D3, .int .i64 defi, .int .i64 term, .int .i64 sum, D7, D8, D9, D10, D11] 56)).alloc (.cells #[.string name, sl] 60))
      fun e w' => e = .returned (.tuple #[]) ∧ w' = (((w.alloc (.cells #[.int .i64 t, .int .i64 1, .string name, .iface 62 (.pointer (some ⟨w.heap.size + 1, 8, none⟩))] 44)).alloc
        (.cells #[.iface 40 (.pointer (some ⟨w.heap.size, 0, none⟩)), .bool false, .bool eng, D3, .int .i64 defi, .int .i64 t, .int .i64 (wrap64 (sum + wrap64 (t - term))), D7, .iface 57 (.pointer (some ⟨w.heap.size + 1 + 1, 0, none⟩)), .pointer (some ⟨w.heap.size + 1, 0, none⟩), D10, D11] 56)).alloc (.cells #[.string name, sl] 60)).drew.drew.drew := by
  have m1 := meth40_Start
  have m2 := meth40_Term
  go_enter Ybaf.func10, Ybaf.ntmps10
  go_wp2
  go_region_with (go_at_call 36; refine (inner_start _ _ _ _ _ _ _ _ _ _ _ _ _ _ _ _).mono ?_; rintro e w' ⟨rfl, rfl⟩)
  all_goals go_wp2
  go_region_with (first | (go_at_call 37; refine (inner_term _ _ t (by go_simp)).mono ?_; rintro e w' ⟨rfl, rfl⟩) | (go_at_call 13; refine (settle_quiet w t defi term sum eng _ _ _ _ _ _ _ _ _ hq).mono ?_; rintro e w1 ⟨rfl, rfl⟩))
  all_goals go_wp2
  all_goals (go_end0; exact ⟨rfl, rfl⟩)

set_option maxHeartbeats 400000 in
/-- (*Diffusion).Start at an engaged process that awaits nothing. -/
theorem start_sig (w : World) (father : ByteArray) (t defi term sum : Int) (nm name : ByteArray) (D7 D8 D9 D10 : Value) (hd : defi ≤ 0) :
    Calls Ybaf.prog 10 #[.pointer (some ⟨w.heap.size + 1, 0, none⟩), .iface 57 (.pointer (some ⟨w.heap.size + 1 + 1, 0, none⟩))]
      (((w.alloc (.cells #[.int .i64 t, .int .i64 0, .string nm, .nilIface] 44)).alloc (.cells #[.iface 40 (.pointer (some ⟨w.heap.size, 0, none⟩)), .bool false, .bool true, .string father, .int .i64 defi, .int .i64 term, .int .i64 sum, D7, D8, D9, D10, .int .i64 0] 56)).alloc (.cells #[.string name, .slice none 0 0] 60))
      fun e w' => e = .returned (.tuple #[]) ∧ ∃ w1, Sent (((w.alloc (.cells #[.int .i64 t, .int .i64 1, .string name, .iface 62 (.pointer (some ⟨w.heap.size + 1, 8, none⟩))] 44)).alloc
        (.cells #[.iface 40 (.pointer (some ⟨w.heap.size, 0, none⟩)), .bool false, .bool true, .string father, .int .i64 defi, .int .i64 t, .int .i64 0, D7, .iface 57 (.pointer (some ⟨w.heap.size + 1 + 1, 0, none⟩)), .pointer (some ⟨w.heap.size + 1, 0, none⟩), D10, .int .i64 1] 56)).alloc (.cells #[.string name, .slice none 0 0] 60)).drew.drew.drew (w.heap.size + 1 + 1) father (wrap64 (sum + wrap64 (t - term))) w1 ∧
        w' = w1.setCell ⟨w.heap.size + 1, 2, none⟩ (.bool false) := by
  have m1 := meth40_Start
  have m2 := meth40_Term
  go_enter Ybaf.func10, Ybaf.ntmps10
  go_wp2
  go_region_with (go_at_call 36; refine (inner_start _ _ _ _ _ _ _ _ _ _ _ _ _ _ _ _).mono ?_; rintro e w' ⟨rfl, rfl⟩)
  all_goals go_wp2
  go_region_with (first | (go_at_call 37; refine (inner_term _ _ t (by go_simp)).mono ?_; rintro e w' ⟨rfl, rfl⟩) | (go_at_call 13; refine (settle_sig w father t defi term sum _ _ _ _ _ _ hd).mono ?_; rintro e w' ⟨rfl, w1, hS, rfl⟩))
  all_goals go_wp2
  all_goals (go_end0; exact ⟨rfl, _, hS, rfl⟩)
end Go.Proofs.YbulkoluFmt
