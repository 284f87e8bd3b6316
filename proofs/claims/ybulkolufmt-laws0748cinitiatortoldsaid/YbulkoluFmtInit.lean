/-
  SEAT b0748aF, package termination: the contracts of what 'Diffusion.Start' comes to, for 'LawS0748CInitiator' (its memory: the inner process, the variable 'got', the Diffusion, the Env: four blocks of the law's own).
-/
import Derived.Test.YbulkoluFmtTerm
namespace Go.Proofs.YbulkoluFmt
open Go.RowKit

set_option maxHeartbeats 400000 in
/-- (*zzs0748cinner).Start. -/
theorem inner_start_i (w : World) (t : Int) (nm name : ByteArray) (o1 : Obj) (D0 D1 D2 D3 D4 D5 D6 D7 D9 D10 D11 sl : Value) :
    Calls Ybaf.prog 36 #[.pointer (some ⟨w.heap.size, 0, none⟩), .iface 62 (.pointer (some ⟨w.heap.size + 1 + 1, 8, none⟩))]
      ((((w.alloc (.cells #[.int .i64 t, .int .i64 0, .string nm, .nilIface] 44)).alloc o1).alloc (.cells #[D0, D1, D2, D3, D4, D5, D6, D7, .iface 57 (.pointer (some ⟨w.heap.size + 1 + 1 + 1, 0, none⟩)), D9, D10, D11] 56)).alloc (.cells #[.string name, sl] 60)).drew
      fun e w' => e = .returned (.tuple #[]) ∧ w' = ((((w.alloc (.cells #[.int .i64 t, .int .i64 1, .string name, .iface 62 (.pointer (some ⟨w.heap.size + 1 + 1, 8, none⟩))] 44)).alloc o1).alloc (.cells #[D0, D1, D2, D3, D4, D5, D6, D7, .iface 57 (.pointer (some ⟨w.heap.size + 1 + 1 + 1, 0, none⟩)), D9, D10, D11] 56)).alloc (.cells #[.string name, sl] 60)).drew := by
  have hm := meth62_Name
  go_enter Ybaf.func36, Ybaf.ntmps36
  go_wp2
  go_end0
  exact ⟨rfl, rfl⟩

set_option maxHeartbeats 400000 in
/-- settle at the initiator that still awaits something. -/
theorem settle_i_quiet (w : World) (t defi term sum : Int) (o0 o1 o2 : Obj) (D0 D2 D3 D7 D8 D9 D10 D11 : Value) (hd : 0 < defi) :
    Calls Ybaf.prog 13 #[.pointer (some ⟨w.heap.size + 1 + 1, 1, none⟩), .int .i64 t, .iface 46 (.pointer (some ⟨w.heap.size + 1 + 1, 0, none⟩))]
      ((((w.alloc o0).alloc o1).alloc (.cells #[D0, .bool true, D2, D3, .int .i64 defi, .int .i64 term, .int .i64 sum, D7, D8, D9, D10, D11] 56)).alloc o2).drew.drew
      fun e w' => e = .returned (.tuple #[]) ∧ w' = ((((w.alloc o0).alloc o1).alloc (.cells #[D0, .bool true, D2, D3, .int .i64 defi, .int .i64 t, .int .i64 (wrap64 (sum + wrap64 (t - term))), D7, D8, D9, D10, D11] 56)).alloc o2).drew.drew.drew := by
  go_enter Ybaf.func13, Ybaf.ntmps13
  go_wp2
  go_region
  all_goals go_wp2
  all_goals exact bodyPost_ret (v := .tuple #[]) (results_none rfl _ _ _) rfl ⟨rfl, rfl⟩

theorem Ybaf.info3 : (Ybaf.prog.info? 3).map (fun i => (i.zero, i.size, i.bytes)) = some (some (.int .i64 0), 1, 8) := by kernel_rfl

/-- What the announcement leaves: the variable 'got', nil before, is a new row of the one sum. -/
def Told (w : World) (b : Nat) (s : Int) (w' : World) : Prop :=
  ∃ w1 g cap, Below w.heap.size w w1 ∧ w1.ownsRow w.heap.size 3 1 (.slice (some ⟨g, 0, none⟩) 1 cap) 1 [.int .i64 s] ∧ w' = w1.setCell ⟨b, 0, none⟩ (.slice (some ⟨g, 0, none⟩) 1 cap)

set_option maxHeartbeats 400000 in
/-- The law's closure 'func(s int) { got = append(got, s) }', got nil before. -/
theorem closure_any (w : World) (b : Nat) (s : Int) (hb : b < w.heap.size) (hc : w.cell? ⟨b, 0, none⟩ = some (.slice none 0 0)) (hf : w.frozen? ⟨b, 0, none⟩ = false) :
    Calls Ybaf.prog 9 #[.int .i64 s, .pointer (some ⟨b, 0, none⟩)] w fun e w' => e = .returned (.tuple #[]) ∧ Told w b s w' := by
  obtain ⟨i0, hi, hz0, hz1, hz2⟩ := info_parts Ybaf.info3
  go_enter Ybaf.func9, Ybaf.ntmps9
  go_wp2_with (at_builtin; refine wpList_append_own _ rfl (.tmp 3) (.tmp 5) 45 rfl w.heap.size 3 i0 (.int .i64 0) 1 8 Ybaf.underlying45 hi hz0 hz1 hz2 rfl (by decide) _ _ _ rfl ((World.ownsRow_nil w w.heap.size 3 1).alloc _) ⟨w.heap.size, 0, none⟩ 1 1 [.int .i64 s] rfl rfl ?c1 ?c2 ?c3 ?c4 ?c5 ?_)
  case c1 =>
    intro j u hj
    match j, hj with
    | 0, hj => simp at hj; subst hj; simp [Addr.add]
  case c2 => intro u hu; simp at hu; subst hu; rfl
  case c3 => decide
  case c4 => decide
  case c5 => simp
  intro v' w1 hown hgrow _
  obtain ⟨g, cap, hv⟩ := Joins.ownsRow_form hown (by decide)
  rw [hv] at hown ⊢
  have B : Below w.heap.size w w1 := ((Below.refl _ w).alloc (Nat.le_refl _) _).grown hgrow (by simp) (fun k h => by cases h)
  have k1 : w1.cell? ⟨b, 0, none⟩ = some (.slice none 0 0) := (B.cell (p := ⟨b, 0, none⟩) hb).trans hc
  have k2 : w1.frozen? ⟨b, 0, none⟩ = false := (B.frozen (p := ⟨b, 0, none⟩) hb).trans hf
  clear hgrow hv
  go_wp2
  go_end0
  exact ⟨rfl, _, _, _, B, hown, rfl⟩
end Go.Proofs.YbulkoluFmt
