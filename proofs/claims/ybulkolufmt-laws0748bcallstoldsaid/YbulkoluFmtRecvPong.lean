/-
  SEAT b0748aF, package runtimetest: the walk of '(*Timed).Receive' (6): pong.
-/
import Derived.Test.YbulkoluFmtB3
namespace Go.Proofs.YbulkoluFmt
open Go.RowKit Go.Extern.Stop Go.Stop Go.Extern

set_option maxRecDepth 100000 in
set_option maxHeartbeats 2000000 in
theorem recv_pong (W : World) (bT T E N : Nat) (name peer frm : ByteArray) (tv : Value) (ts : List ByteArray) (i : Int) (h : RIn W bT T E N name peer tv ts)  :
    Calls Ybaf.prog 6 #[.pointer (some ⟨T, 0, none⟩), .iface 26 (.pointer (some ⟨E, 0, none⟩)), .string frm, .iface 32 (.agg #[.int .i64 i])] W fun e w' => e = .returned (.tuple #[]) ∧
      ∃ s tv' ev, ROut W w' bT T E N name tv tv' (ts ++ [s]) ev 0 [] := by
  obtain ⟨i0, hi, hz0, hz1, hz2⟩ := info_parts Ybaf.info9
  have m1 := fun p w => (meth26 p w).1
  have m2 := fun p w => (meth26 p w).2.1
  have m3 := fun p w => (meth26 p w).2.2.1
  have m4 := fun p w => (meth26 p w).2.2.2
  have a1 := fun w => as_hit32 (.agg #[.int .i64 i]) w
  have a31 := fun w => as_miss32_31 (.agg #[.int .i64 i]) w
  have c0 : W.cell? ⟨E, 0, none⟩ = some (.string name) := by simp [World.cell?, h.e]
  have c1 : W.cell? ⟨E, 1, none⟩ = some (.slice (some ⟨N, 0, none⟩) 1 1) := by simp [World.cell?, h.e]
  have cn := h.nb
  have ct : W.cell? ⟨T, 1, none⟩ = some tv := by simp [World.cell?, h.t]
  have lT := lt_of_block h.t
  have lE := lt_of_block h.e
  have ct1 : ∀ o, (W.alloc o).cell? ⟨T, 1, none⟩ = some tv := fun o => (World.cell?_alloc_lt _ _ _ lT).trans ct
  have ct2 : ∀ o o', ((W.alloc o).alloc o').cell? ⟨T, 1, none⟩ = some tv := fun o o' => (World.cell?_alloc_lt _ _ _ (by simp; omega)).trans (ct1 o)
  have ct3 : ∀ o o' o'', (((W.alloc o).alloc o').alloc o'').cell? ⟨T, 1, none⟩ = some tv := fun o o' o'' => (World.cell?_alloc_lt _ _ _ (by simp; omega)).trans (ct2 o o')
  have hle := h.le
  have hlen := h.len
  go_enter Ybaf.func6, Ybaf.ntmps6
  go_upto_block 0 with (first | (go_at_call 33; go_in) | (go_at_call 34; go_in))
  go_cut [9] (fun s wx => (∃ snd, s = .string snd) ∧ W = wx)
  case first =>
    go_wp2_with (first | (go_at_call 33; go_in) | (go_at_call 34; go_in))
    all_goals (go_meet; exact ⟨⟨_, rfl⟩, rfl⟩)
  case rest =>
    obtain ⟨⟨snd, rfl⟩, rfl⟩ := hcut
    clear c0 c1 cn m1 m2
    obtain ⟨X, hX⟩ := sp_two ⟨#[112, 111, 110, 103, 32, 37, 100, 32, 102, 114, 111, 109, 32, 37, 115]⟩ (.iface 3 (.int .i64 i)) (.iface 9 (.string snd)) 100 115 _ _ (by kernel_rfl) (fun w => op3 _ i w) (fun w => op9 _ snd w)
    go_upto_region 17 with fail
    go_region_law (
        (refine at_append (.tmp 71) (.tmp 79) 22 rfl ?_
         refine step_append_own rfl (.tmp 71) (.tmp 79) 22 rfl bT 9 i0 (.string ByteArray.empty) 1 16 Ybaf.underlying22 hi hz0 hz1 hz2 rfl (by decide) tv ts.length (ts.map Value.string) (by simp [Act.eval]) (((h.own.alloc _).alloc _).alloc _).drew.drew ⟨W.heap.size + 1 + 1, 0, none⟩ 1 1 [.string _] (by simp [Act.eval]) rfl (one_new3 _ _ _ _ _) (one_one _) (len_a hlen) (len_b hlen) (le_3 hle) ?_
         intro v' w1 hown hgrow
         obtain ⟨b1, R, K⟩ := took_push h (below3 _ _ _ _) hown hgrow
         obtain ⟨g, cap, hv⟩ := Joins.ownsRow_form hown (by omega)
         subst hv
         have k1 : w1.cell? ⟨T, 1, none⟩ = some tv := by simp [World.cell?, b1]
         have k2 : w1.frozen? ⟨T, 1, none⟩ = false := by simp [World.frozen?, b1]))
    all_goals (go_end0; exact ⟨rfl, _, _, _, R⟩)
end Go.Proofs.YbulkoluFmt
