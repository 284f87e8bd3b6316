/-
  SEAT b0748aF, package termination: 'terminated', 'settle' and 'Start' at the initiator.
-/
import Derived.Test.YbulkoluFmtInit
import Derived.Laws.EntriesVeiled
namespace Go.Proofs.YbulkoluFmt
open Go.RowKit

set_option maxHeartbeats 400000 in
/-- (*Diffusion).terminated: the closure is called. -/
theorem terminated_any (w : World) (b d : Nat) (s : Int) (hb : b < w.heap.size) (h7 : w.cell? ⟨d, 7, none⟩ = some (.func (Fn.func 9) #[] #[.pointer (some ⟨b, 0, none⟩)])) (hc : w.cell? ⟨b, 0, none⟩ = some (.slice none 0 0)) (hf : w.frozen? ⟨b, 0, none⟩ = false) :
    Calls Ybaf.prog 39 #[.pointer (some ⟨d, 0, none⟩), .int .i64 s] w fun e w' => e = .returned (.tuple #[]) ∧ Told w b s w' := by
  go_enter Ybaf.func39, Ybaf.ntmps39
  go_wp2_with (go_at_call 9; refine (closure_any _ _ _ hb hc hf).mono ?_; rintro e w' ⟨rfl, hT⟩)
  go_end0
  exact ⟨rfl, hT⟩

theorem pre_i (w : World) (o0 o2 : Obj) (D0 D1 D2 D3 D4 D5 D6 D7 D8 D9 D10 D11 : Value) :
    w.heap.size + 1 < ((((w.alloc o0).alloc (.cells #[.slice none 0 0] 45)).alloc (.cells #[D0, D1, D2, D3, D4, D5, D6, D7, D8, D9, D10, D11] 56)).alloc o2).drew.drew.drew.drew.heap.size ∧
    ((((w.alloc o0).alloc (.cells #[.slice none 0 0] 45)).alloc (.cells #[D0, D1, D2, D3, D4, D5, D6, D7, D8, D9, D10, D11] 56)).alloc o2).drew.drew.drew.drew.cell? ⟨w.heap.size + 1 + 1, 7, none⟩ = some D7 ∧
    ((((w.alloc o0).alloc (.cells #[.slice none 0 0] 45)).alloc (.cells #[D0, D1, D2, D3, D4, D5, D6, D7, D8, D9, D10, D11] 56)).alloc o2).drew.drew.drew.drew.cell? ⟨w.heap.size + 1, 0, none⟩ = some (.slice none 0 0) ∧
    ((((w.alloc o0).alloc (.cells #[.slice none 0 0] 45)).alloc (.cells #[D0, D1, D2, D3, D4, D5, D6, D7, D8, D9, D10, D11] 56)).alloc o2).drew.drew.drew.drew.frozen? ⟨w.heap.size + 1, 0, none⟩ = false := by
  refine ⟨by simp [World.drew], by go_simp, by go_simp, by go_simp⟩

set_option maxHeartbeats 400000 in
/-- settle at the initiator that awaits nothing: the sum is announced. -/
theorem settle_i_ann (w : World) (t defi term sum : Int) (o0 o2 : Obj) (D0 D2 D3 D8 D9 D10 D11 : Value) (hd : defi ≤ 0) :
    Calls Ybaf.prog 13 #[.pointer (some ⟨w.heap.size + 1 + 1, 1, none⟩), .int .i64 t, .iface 46 (.pointer (some ⟨w.heap.size + 1 + 1, 0, none⟩))]
      ((((w.alloc o0).alloc (.cells #[.slice none 0 0] 45)).alloc (.cells #[D0, .bool true, D2, D3, .int .i64 defi, .int .i64 term, .int .i64 sum, .func (Fn.func 9) #[] #[.pointer (some ⟨w.heap.size + 1, 0, none⟩)], D8, D9, D10, D11] 56)).alloc o2).drew.drew
      fun e w' => e = .returned (.tuple #[]) ∧ Told ((((w.alloc o0).alloc (.cells #[.slice none 0 0] 45)).alloc (.cells #[D0, .bool true, D2, D3, .int .i64 defi, .int .i64 t, .int .i64 (wrap64 (sum + wrap64 (t - term))), .func (Fn.func 9) #[] #[.pointer (some ⟨w.heap.size + 1, 0, none⟩)], D8, D9, D10, D11] 56)).alloc o2).drew.drew.drew.drew (w.heap.size + 1) (wrap64 (sum + wrap64 (t - term))) w' := by
  have m1 := fun p w => (carrier_terminated Ybaf.underlying82 p w).1
  have m2 := fun p w => (carrier_terminated Ybaf.underlying82 p w).2
  go_enter Ybaf.func13, Ybaf.ntmps13
  go_wp2
  go_region
  all_goals go_wp2
  have P := pre_i w o0 o2 D0 (.bool true) D2 D3 (.int .i64 defi) (.int .i64 t) (.int .i64 (wrap64 (sum + wrap64 (t - term)))) (.func (Fn.func 9) #[] #[.pointer (some ⟨w.heap.size + 1, 0, none⟩)]) D8 D9 D10 D11
  have C := terminated_any _ (w.heap.size + 1) (w.heap.size + 1 + 1) (wrap64 (sum + wrap64 (t - term))) P.1 P.2.1 P.2.2.1 P.2.2.2
  clear P
  go_region_with (go_at_call 39; refine C.mono ?_; rintro e w' ⟨rfl, hT⟩)
  all_goals go_wp2
  all_goals (go_end0; exact ⟨rfl, hT⟩)

set_option maxHeartbeats 400000 in
/-- (*Diffusion).Start at the initiator that awaits something. -/
theorem start_i_quiet (w : World) (t defi term sum : Int) (nm name : ByteArray) (o1 : Obj) (D2 D3 D7 D8 D9 D10 D11 sl : Value) (hd : 0 < defi) :
    Calls Ybaf.prog 10 #[.pointer (some ⟨w.heap.size + 1 + 1, 0, none⟩), .iface 57 (.pointer (some ⟨w.heap.size + 1 + 1 + 1, 0, none⟩))]
      ((((w.alloc (.cells #[.int .i64 t, .int .i64 0, .string nm, .nilIface] 44)).alloc o1).alloc (.cells #[.iface 40 (.pointer (some ⟨w.heap.size, 0, none⟩)), .bool true, D2, D3, .int .i64 defi, .int .i64 term, .int .i64 sum, D7, D8, D9, D10, D11] 56)).alloc (.cells #[.string name, sl] 60))
      fun e w' => e = .returned (.tuple #[]) ∧ w' = ((((w.alloc (.cells #[.int .i64 t, .int .i64 1, .string name, .iface 62 (.pointer (some ⟨w.heap.size + 1 + 1, 8, none⟩))] 44)).alloc o1).alloc
        (.cells #[.iface 40 (.pointer (some ⟨w.heap.size, 0, none⟩)), .bool true, D2, D3, .int .i64 defi, .int .i64 t, .int .i64 (wrap64 (sum + wrap64 (t - term))), D7, .iface 57 (.pointer (some ⟨w.heap.size + 1 + 1 + 1, 0, none⟩)), .pointer (some ⟨w.heap.size + 1 + 1, 0, none⟩), D10, D11] 56)).alloc (.cells #[.string name, sl] 60)).drew.drew.drew := by
  have m1 := meth40_Start
  have m2 := meth40_Term
  go_enter Ybaf.func10, Ybaf.ntmps10
  go_wp2
  go_region_with (go_at_call 36; refine (inner_start_i _ _ _ _ _ _ _ _ _ _ _ _ _ _ _ _ _).mono ?_; rintro e w' ⟨rfl, rfl⟩)
  all_goals go_wp2
  go_region_with (first | (go_at_call 37; refine (inner_term _ _ t (by go_simp)).mono ?_; rintro e w' ⟨rfl, rfl⟩) | (go_at_call 13; refine (settle_i_quiet w t defi term sum _ _ _ _ _ _ _ _ _ _ _ hd).mono ?_; rintro e w1 ⟨rfl, rfl⟩))
  all_goals go_wp2
  all_goals (go_end0; exact ⟨rfl, rfl⟩)

set_option maxHeartbeats 400000 in
/-- (*Diffusion).Start at the initiator that awaits nothing. -/
theorem start_i_ann (w : World) (t defi term sum : Int) (nm name : ByteArray) (D2 D3 D8 D9 D10 D11 sl : Value) (hd : defi ≤ 0) :
    Calls Ybaf.prog 10 #[.pointer (some ⟨w.heap.size + 1 + 1, 0, none⟩), .iface 57 (.pointer (some ⟨w.heap.size + 1 + 1 + 1, 0, none⟩))]
      ((((w.alloc (.cells #[.int .i64 t, .int .i64 0, .string nm, .nilIface] 44)).alloc (.cells #[.slice none 0 0] 45)).alloc (.cells #[.iface 40 (.pointer (some ⟨w.heap.size, 0, none⟩)), .bool true, D2, D3, .int .i64 defi, .int .i64 term, .int .i64 sum, .func (Fn.func 9) #[] #[.pointer (some ⟨w.heap.size + 1, 0, none⟩)], D8, D9, D10, D11] 56)).alloc (.cells #[.string name, sl] 60))
      fun e w' => e = .returned (.tuple #[]) ∧ Told ((((w.alloc (.cells #[.int .i64 t, .int .i64 1, .string name, .iface 62 (.pointer (some ⟨w.heap.size + 1 + 1, 8, none⟩))] 44)).alloc (.cells #[.slice none 0 0] 45)).alloc
        (.cells #[.iface 40 (.pointer (some ⟨w.heap.size, 0, none⟩)), .bool true, D2, D3, .int .i64 defi, .int .i64 t, .int .i64 (wrap64 (sum + wrap64 (t - term))), .func (Fn.func 9) #[] #[.pointer (some ⟨w.heap.size + 1, 0, none⟩)], .iface 57 (.pointer (some ⟨w.heap.size + 1 + 1 + 1, 0, none⟩)), .pointer (some ⟨w.heap.size + 1 + 1, 0, none⟩), D10, D11] 56)).alloc (.cells #[.string name, sl] 60)).drew.drew.drew.drew (w.heap.size + 1) (wrap64 (sum + wrap64 (t - term))) w' := by
  have m1 := meth40_Start
  have m2 := meth40_Term
  go_enter Ybaf.func10, Ybaf.ntmps10
  go_wp2
  go_region_with (go_at_call 36; refine (inner_start_i _ _ _ _ _ _ _ _ _ _ _ _ _ _ _ _ _).mono ?_; rintro e w' ⟨rfl, rfl⟩)
  all_goals go_wp2
  go_region_with (first | (go_at_call 37; refine (inner_term _ _ t (by go_simp)).mono ?_; rintro e w' ⟨rfl, rfl⟩) | (go_at_call 13; refine (settle_i_ann w t defi term sum _ _ _ _ _ _ _ _ _ hd).mono ?_; rintro e w1 ⟨rfl, hT⟩))
  all_goals go_wp2
  all_goals (go_end0; exact ⟨rfl, hT⟩)
end Go.Proofs.YbulkoluFmt
