/-
  SEAT b0748aF, package runtimetest: the walk of '(*Timed).Receive' (6): a message of no known type (a bool).
-/
import Derived.Test.YbulkoluFmtB3
namespace Go.Proofs.YbulkoluFmt
open Go.RowKit Go.Extern.Stop Go.Stop Go.Extern

set_option maxRecDepth 100000 in
set_option maxHeartbeats 1000000 in
theorem recv_bool (W : World) (bT T E N : Nat) (name peer frm : ByteArray) (tv : Value) (ts : List ByteArray) (h : RIn W bT T E N name peer tv ts) :
    Calls Ybaf.prog 6 #[.pointer (some ⟨T, 0, none⟩), .iface 26 (.pointer (some ⟨E, 0, none⟩)), .string frm, .iface 4 (.bool true)] W fun e w' => e = .returned (.tuple #[]) ∧ W = w' := by
  have m1 := fun p w => (meth26 p w).1
  have m2 := fun p w => (meth26 p w).2.1
  have a31 := fun w => as_miss4_31 (.bool true) w
  have a32 := fun w => as_miss4_32 (.bool true) w
  have a36 := fun w => as_miss4_36 (.bool true) w
  have a3 := fun w => as_miss4_3 (.bool true) w
  have a9 := fun w => as_miss4_9 (.bool true) w
  have c0 : W.cell? ⟨E, 0, none⟩ = some (.string name) := by simp [World.cell?, h.e]
  have c1 : W.cell? ⟨E, 1, none⟩ = some (.slice (some ⟨N, 0, none⟩) 1 1) := by simp [World.cell?, h.e]
  have cn := h.nb
  go_enter Ybaf.func6, Ybaf.ntmps6
  go_upto_block 0 with (first | (go_at_call 33; go_in) | (go_at_call 34; go_in))
  go_cut [9] (fun s wx => (∃ snd, s = .string snd) ∧ W = wx)
  case first =>
    go_wp2_with (first | (go_at_call 33; go_in) | (go_at_call 34; go_in))
    all_goals (go_meet; exact ⟨⟨_, rfl⟩, rfl⟩)
  case rest =>
    obtain ⟨⟨snd, rfl⟩, rfl⟩ := hcut
    go_wp2
    go_end0
    exact ⟨rfl, rfl⟩
end Go.Proofs.YbulkoluFmt
