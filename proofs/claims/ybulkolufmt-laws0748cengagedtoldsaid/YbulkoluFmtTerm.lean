/-
  SEAT b0748aF, package termination: the contracts of what 'Diffusion.Start' comes to, for 'LawS0748CEngaged' (its memory: the inner process, the Diffusion, the Env: three blocks of the law's own).
-/
import Derived.Test.YbulkoluFmtMeth
import Derived.WalkSpells
import Derived.WalkLawsBesides
import Derived.Deep.RegionWith
import Derived.Deep.RegionLawGrows
import Derived.Lib.SmallJoins
namespace Go.Proofs.YbulkoluFmt
open Go.RowKit

set_option maxHeartbeats 400000 in
/-- (*zzs0748cinner).Start. -/
theorem inner_start (w : World) (t : Int) (nm name : ByteArray) (D0 D1 D2 D3 D4 D5 D6 D7 D9 D10 D11 sl : Value) :
    Calls Ybaf.prog 36 #[.pointer (some ⟨w.heap.size, 0, none⟩), .iface 62 (.pointer (some ⟨w.heap.size + 1, 8, none⟩))]
      (((w.alloc (.cells #[.int .i64 t, .int .i64 0, .string nm, .nilIface] 44)).alloc (.cells #[D0, D1, D2, D3, D4, D5, D6, D7, .iface 57 (.pointer (some ⟨w.heap.size + 1 + 1, 0, none⟩)), D9, D10, D11] 56)).alloc (.cells #[.string name, sl] 60)).drew
      fun e w' => e = .returned (.tuple #[]) ∧ w' = (((w.alloc (.cells #[.int .i64 t, .int .i64 1, .string name, .iface 62 (.pointer (some ⟨w.heap.size + 1, 8, none⟩))] 44)).alloc (.cells #[D0, D1, D2, D3, D4, D5, D6, D7, .iface 57 (.pointer (some ⟨w.heap.size + 1 + 1, 0, none⟩)), D9, D10, D11] 56)).alloc (.cells #[.string name, sl] 60)).drew := by
  have hm := meth62_Name
  go_enter Ybaf.func36, Ybaf.ntmps36
  go_wp2
  go_end0
  exact ⟨rfl, rfl⟩

/-- (*zzs0748cinner).Term. -/
theorem inner_term (w : World) (b : Nat) (t : Int) (h : w.cell? ⟨b, 0, none⟩ = some (.int .i64 t)) :
    Calls Ybaf.prog 37 #[.pointer (some ⟨b, 0, none⟩)] w fun e w' => e = .returned (.int .i64 t) ∧ w' = w := by
  go_enter Ybaf.func37, Ybaf.ntmps37
  go_wp2
  go_ret
  exact ⟨rfl, rfl⟩

set_option maxHeartbeats 400000 in
/-- settle where nothing is to be sent: deficit > 0; or the process is not engaged (and not the initiator). -/
theorem settle_quiet (w : World) (t defi term sum : Int) (eng : Bool) (o0 o2 : Obj) (D0 D3 D7 D8 D9 D10 D11 : Value) (hq : 0 < defi ∨ (defi ≤ 0 ∧ eng = false)) :
    Calls Ybaf.prog 13 #[.pointer (some ⟨w.heap.size + 1, 1, none⟩), .int .i64 t, .iface 46 (.pointer (some ⟨w.heap.size + 1, 0, none⟩))]
      (((w.alloc o0).alloc (.cells #[D0, .bool false, .bool eng, D3, .int .i64 defi, .int .i64 term, .int .i64 sum, D7, D8, D9, D10, D11] 56)).alloc o2).drew.drew
      fun e w' => e = .returned (.tuple #[]) ∧ w' = (((w.alloc o0).alloc (.cells #[D0, .bool false, .bool eng, D3, .int .i64 defi, .int .i64 t, .int .i64 (wrap64 (sum + wrap64 (t - term))), D7, D8, D9, D10, D11] 56)).alloc o2).drew.drew.drew := by
  rcases hq with hd | ⟨hd, rfl⟩
  · go_enter Ybaf.func13, Ybaf.ntmps13
    go_wp2
    go_region
    all_goals go_wp2
    all_goals exact bodyPost_ret (v := .tuple #[]) (results_none rfl _ _ _) rfl ⟨rfl, rfl⟩
  · go_enter Ybaf.func13, Ybaf.ntmps13
    go_wp2
    go_region
    all_goals go_wp2
    all_goals (go_end0; exact ⟨rfl, rfl⟩)

theorem Ybaf.info66 : (Ybaf.prog.info? 66).map (fun i => (i.zero, i.size, i.bytes)) = some (some (.agg #[.string ByteArray.empty, .int .i64 0, .bool false]), 3, 32) := by kernel_rfl

theorem three_new (w : World) (o : Obj) (u0 u1 u2 : Value) (T : TypeId) : ∀ j u, [u0, u1, u2][j]? = some u → ((w.alloc o).alloc (.cells #[u0, u1, u2] T)).drew.cell? ((⟨w.heap.size + 1, 0, none⟩ : Addr).add j) = some u := by
  intro j u hj
  match j, hj with
  | 0, hj => simp at hj; subst hj; simp [Addr.add, go_sem]
  | 1, hj => simp at hj; subst hj; simp [Addr.add, go_sem]
  | 2, hj => simp at hj; subst hj; simp [Addr.add, go_sem]
theorem three_one (s : ByteArray) (n : Int) (b : Bool) : ∀ u ∈ [Value.string s, .int .i64 n, .bool b], u.oneCell' = true := by
  intro u hu
  simp at hu
  rcases hu with rfl | rfl | rfl <;> rfl

theorem env_send_rel {w w1 : World} {b g cap : Nat} {o o' : Obj} {vs : List Value} (hb : b < w.heap.size) (hc1 : w.cell? ⟨b, 1, none⟩ = some (.slice none 0 0)) (hf1 : w.frozen? ⟨b, 1, none⟩ = false)
    (hown : w1.ownsRow ((w.alloc o).alloc o').drew.heap.size 66 3 (.slice (some ⟨g, 0, none⟩) (0 + 1) cap) (0 + 1) vs) (hgrow : ((w.alloc o).alloc o').drew.grownBy w1 none) :
    Below w.heap.size w w1 ∧ w1.cell? ⟨b, 1, none⟩ = some (.slice none 0 0) ∧ w1.frozen? ⟨b, 1, none⟩ = false ∧ w1.ownsRow w.heap.size 66 3 (.slice (some ⟨g, 0, none⟩) 1 cap) 1 vs := by
  have B : Below w.heap.size w w1 := ((((Below.refl _ w).alloc (Nat.le_refl _) o).alloc (by simp) o').drew).grown hgrow (by simp [World.drew]; omega) (fun k h => by cases h)
  refine ⟨B, (B.cell (p := ⟨b, 1, none⟩) hb).trans hc1, (B.frozen (p := ⟨b, 1, none⟩) hb).trans hf1, ?_⟩
  obtain ⟨h1, h2⟩ := hown
  refine ⟨h1, ?_⟩
  rcases h2 with h2 | ⟨g', cap', cur, e, hb', r⟩
  · exact .inl h2
  · exact .inr ⟨g', cap', cur, e, Nat.le_trans (by simp [World.drew]; omega) hb', r⟩

/-- What one signal leaves: the Env's list of sends, nil before, is a new row of the one entry. -/
def Sent (w : World) (b : Nat) (to : ByteArray) (sum : Int) (w' : World) : Prop :=
  ∃ w1 g cap, Below w.heap.size w w1 ∧ w1.ownsRow w.heap.size 66 3 (.slice (some ⟨g, 0, none⟩) 1 cap) 1 [.string to, .int .i64 sum, .bool true] ∧ w' = w1.setCell ⟨b, 1, none⟩ (.slice (some ⟨g, 0, none⟩) 1 cap)

theorem Sent.cell {W w' : World} {b : Nat} {to : ByteArray} {sum : Int} (h : Sent W b to sum w') {p : Addr} (hp : p.block < W.heap.size) (hne : (⟨b, 1, none⟩ : Addr) ≠ p) : w'.cell? p = W.cell? p := by
  obtain ⟨w1, g, cap, B, _, rfl⟩ := h
  rw [World.cell?_setCell_other _ _ _ _ hne]
  exact B.cell hp
theorem Sent.frozen {W w' : World} {b : Nat} {to : ByteArray} {sum : Int} (h : Sent W b to sum w') {p : Addr} (hp : p.block < W.heap.size) : w'.frozen? p = W.frozen? p := by
  obtain ⟨w1, g, cap, B, _, rfl⟩ := h
  rw [World.frozen?_setCell]
  exact B.frozen hp

set_option maxHeartbeats 400000 in
/-- (*zzs0748cenv).Send of a signal, the list nil before. -/
theorem env_send (w : World) (b : Nat) (to : ByteArray) (sum : Int) (hb : b < w.heap.size) (hc1 : w.cell? ⟨b, 1, none⟩ = some (.slice none 0 0)) (hf1 : w.frozen? ⟨b, 1, none⟩ = false) :
    Calls Ybaf.prog 44 #[.pointer (some ⟨b, 0, none⟩), .string to, .iface 100 (.agg #[.int .i64 sum])] w fun e w' => e = .returned (.tuple #[]) ∧ Sent w b to sum w' := by
  obtain ⟨i0, hi, hz0, hz1, hz2⟩ := info_parts Ybaf.info66
  have hc : ∀ o, (w.alloc o).cell? ⟨b, 1, none⟩ = some (.slice none 0 0) := fun o => (World.cell?_alloc_lt _ _ _ hb).trans hc1
  have hta : ∀ w, (Instr.typeAssert (.iface 100 (.agg #[.int .i64 sum])) 20 100 true).run Ybaf.prog w = .ok (.tuple #[.agg #[.int .i64 sum], .bool true]) w := fun _ => by kernel_rfl
  go_enter Ybaf.func44, Ybaf.ntmps44
  go_wp2
  go_region_law (
    (refine step_append_grows rfl (.tmp 17) (.tmp 23) 58 rfl 66 i0 (.agg #[.string ByteArray.empty, .int .i64 0, .bool false]) 3 32 Ybaf.underlying58 hi hz0 hz1 hz2 rfl (by decide) none 0 0 [] (by simp [Act.eval]) (fun _ => ⟨rfl, rfl⟩) rfl (fun _ h => by cases h) ⟨w.heap.size + 1, 0, none⟩ 1 1 [.string to, .int .i64 sum, .bool true] (by simp [Act.eval]) rfl (three_new _ _ _ _ _ _) (three_one _ _ _) (by decide) (by decide) (by decide) ?_
     intro v' w1 hown hgrow
     obtain ⟨g, cap, hv⟩ := Joins.ownsRow_form hown (by decide)
     subst hv
     have R := env_send_rel hb hc1 hf1 hown hgrow
     have k1 := R.2.1
     have k2 := R.2.2.1))
  all_goals (go_end0; exact ⟨rfl, _, _, _, R.1, R.2.2.2, rfl⟩)

set_option maxHeartbeats 400000 in
/-- answer, at a process that is not the initiator: the whole sum goes to 'to', and is cleared; one signal more. -/
theorem answer_any (w : World) (to : ByteArray) (sum sig : Int) (o0 : Obj) (name : ByteArray) (D0 D2 D3 D4 D5 D7 D9 D10 : Value) (hs0 : 0 ≤ sig) (hs1 : sig < 1000) :
    Calls Ybaf.prog 14 #[.pointer (some ⟨w.heap.size + 1, 1, none⟩), .string to, .iface 46 (.pointer (some ⟨w.heap.size + 1, 0, none⟩))]
      (((w.alloc o0).alloc (.cells #[D0, .bool false, D2, D3, D4, D5, .int .i64 sum, D7, .iface 57 (.pointer (some ⟨w.heap.size + 1 + 1, 0, none⟩)), D9, D10, .int .i64 sig] 56)).alloc (.cells #[.string name, .slice none 0 0] 60)).drew.drew.drew
      fun e w' => e = .returned (.tuple #[]) ∧ Sent (((w.alloc o0).alloc (.cells #[D0, .bool false, D2, D3, D4, D5, .int .i64 0, D7, .iface 57 (.pointer (some ⟨w.heap.size + 1 + 1, 0, none⟩)), D9, D10, .int .i64 (sig + 1)] 56)).alloc (.cells #[.string name, .slice none 0 0] 60)).drew.drew.drew (w.heap.size + 1 + 1) to sum w' := by
  have m46 := carrier_send Ybaf.underlying82
  have m57 := meth57_Send
  go_enter Ybaf.func14, Ybaf.ntmps14
  go_wp2_with (first | (go_at_call 44; refine (env_send _ _ _ _ (by simp [World.drew]) (by go_simp) (by go_simp)).mono ?_; rintro e w2 ⟨rfl, hS⟩) | go_in)
  go_end0
  go_wp2
  go_end0
  exact ⟨rfl, hS⟩

set_option maxHeartbeats 400000 in
/-- settle at an engaged process that awaits nothing: it signals its father and is engaged no more. -/
theorem settle_sig (w : World) (father : ByteArray) (t defi term sum : Int) (o0 : Obj) (name : ByteArray) (D0 D7 D9 D10 : Value) (hd : defi ≤ 0) :
    Calls Ybaf.prog 13 #[.pointer (some ⟨w.heap.size + 1, 1, none⟩), .int .i64 t, .iface 46 (.pointer (some ⟨w.heap.size + 1, 0, none⟩))]
      (((w.alloc o0).alloc (.cells #[D0, .bool false, .bool true, .string father, .int .i64 defi, .int .i64 term, .int .i64 sum, D7, .iface 57 (.pointer (some ⟨w.heap.size + 1 + 1, 0, none⟩)), D9, D10, .int .i64 0] 56)).alloc (.cells #[.string name, .slice none 0 0] 60)).drew.drew
      fun e w' => e = .returned (.tuple #[]) ∧ ∃ w1, Sent (((w.alloc o0).alloc (.cells #[D0, .bool false, .bool true, .string father, .int .i64 defi, .int .i64 t, .int .i64 0, D7, .iface 57 (.pointer (some ⟨w.heap.size + 1 + 1, 0, none⟩)), D9, D10, .int .i64 1] 56)).alloc (.cells #[.string name, .slice none 0 0] 60)).drew.drew.drew (w.heap.size + 1 + 1) father (wrap64 (sum + wrap64 (t - term))) w1 ∧
        w' = w1.setCell ⟨w.heap.size + 1, 2, none⟩ (.bool false) := by
  go_enter Ybaf.func13, Ybaf.ntmps13
  go_wp2
  go_region
  all_goals go_wp2_with fail
  refine (answer_any w father _ 0 o0 name D0 (.bool true) (.string father) (.int .i64 defi) (.int .i64 t) D7 D9 D10 (by decide) (by decide)).mono ?_
  rintro e w1 ⟨rfl, hS⟩
  have kc := hS.cell (p := ⟨w.heap.size + 1, 2, none⟩) (by simp [World.drew]) (by simp)
  have kf := hS.frozen (p := ⟨w.heap.size + 1, 2, none⟩) (by simp [World.drew])
  have kc' : w1.cell? ⟨w.heap.size + 1, 2, none⟩ = some (.bool true) := by rw [kc]; go_simp
  have kf' : w1.frozen? ⟨w.heap.size + 1, 2, none⟩ = false := by rw [kf]; go_simp
  clear kc kf
  go_wp2
  go_end0
  exact ⟨rfl, _, hS, rfl⟩

end Go.Proofs.YbulkoluFmt
