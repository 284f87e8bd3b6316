/-
  SEAT b0748aF, package runtimetest: fmt.Sprintf of two operands; an append of the call's own as one step of a region that draws; the law's Env: Name, Neighbours, Send, After.
-/
import Derived.Test.YbulkoluFmtBase
import Derived.Stop.CallBack
import Derived.WalkSpells
import Derived.WalkLawsBesides
import Derived.Deep.RegionWith
import Derived.Deep.RegionLaw
import Derived.Lib.SmallJoins
import Derived.OneCell
namespace Go

/-- 'append' on a row of the call's own (it may grow), as one step of a region that draws its order. -/
theorem step_append_own {P : Program} {ops : Array Oper} {o : Oper} {a : Act} {w : World} {K : Act → World → Prop} {Q : Exit → Act → World → Prop} {E : Prop}
    (hg : o.guard = none) (s x : Operand) (t : TypeId) (hop : o.op = Op.call { callee := Callee.builtin Builtin.append, args := #[s, x], argTypes := #[t, t] })
    (base : Nat) (e : TypeId) (i : TypeInfo) (z : Value) (size bytes : Nat) (h1 : P.underlying t = some (.slice e)) (h2 : P.info? e = some i) (h3 : i.zero = some z) (h4 : i.size = size) (h5 : i.bytes = bytes) (h6 : z.cells.size = size) (h7 : 0 < size)
    (v : Value) (n : Nat) (xs : List Value) (hs : a.eval s = v) (hown : w.ownsRow base e size v n xs)
    (ad : Addr) (m c : Nat) (news : List Value) (hx : a.eval x = .slice (some ad) m c) (hn : news.length = m * size) (hc : ∀ j u, news[j]? = some u → w.cell? (ad.add j) = some u) (h1c : ∀ u ∈ news, u.oneCell' = true)
    (b1 : n + m ≤ maxLen) (b2 : (n + m) * bytes ≤ 140737488355328) (hbase : base ≤ w.heap.size)
    (hK : ∀ v' w', w'.ownsRow base e size v' (n + m) (xs ++ news) → w.grownBy w' v.ownBlock → K (a.put o.dst v') w') :
    if Region.wanted o (yielded ops a.tmps) = true then Oper.wp P o a w K Q else E := by
  have hw : Region.wanted o (yielded ops a.tmps) = true := by simp [Region.wanted, hg]
  rw [if_pos hw]
  obtain ⟨v', w', hrun, r1, r2, _⟩ := run_append_own (P := P) w base t o.type e i z size bytes h1 h2 h3 h4 h5 h6 h7 v n xs hown ad m c news hn hc h1c b1 b2 hbase
  unfold Oper.wp
  simp [execOp, hop, resolve, invoke, builtin, hs, hx, hrun, Result.andThen]
  exact hK v' w' r1 r2

/-- A guard: the step is an append of these operands. -/
theorem at_append {P : Program} {ops : Array Oper} {o : Oper} {a : Act} {w : World} {K : Act → World → Prop} {Q : Exit → Act → World → Prop} {E : Prop} (s x : Operand) (t : TypeId)
    (_hop : o.op = Op.call { callee := Callee.builtin Builtin.append, args := #[s, x], argTypes := #[t, t] }) (h : if Region.wanted o (yielded ops a.tmps) = true then Oper.wp P o a w K Q else E) :
    if Region.wanted o (yielded ops a.tmps) = true then Oper.wp P o a w K Q else E := h

end Go
namespace Go.Proofs.YbulkoluFmt
open Go.RowKit Go.Extern.Stop Go.Stop Go.Extern

theorem call12 (args : Array Value) (w : World) : (callFunc 12 args).run Ybaf.prog w = ((FmtStop.sprintf #[9, 105] #[9] args).run Ybaf.prog w).andThen fun v w' => .ok (.value v) w' :=
  run_callFunc_extern Ybaf.func12 (by kernel_rfl) (by kernel_rfl) (by kernel_rfl) (by kernel_rfl) args w
theorem guard12 (name : String) (w : World) : (FmtStop.guard name).run Ybaf.prog w = .ok () w := by kernel_rfl
def shape3 : List UInt8 := [5, 3, 0, 0, 0, 0, 0, 0, 0, 105, 110, 116]
def shape9 : List UInt8 := [12, 6, 0, 0, 0, 0, 0, 0, 0, 115, 116, 114, 105, 110, 103]
theorem op3 (name : String) (x : Int) (w : World) : (FmtStop.operand name false 100 false (.iface 3 (.int .i64 x))).run Ybaf.prog w = .ok (shape3, Go.Extern.Stop.digits 8 (x % 2 ^ 64).toNat) w := by kernel_rfl
theorem op9 (name : String) (x : ByteArray) (w : World) : (FmtStop.operand name false 115 false (.iface 9 (.string x))).run Ybaf.prog w = .ok (shape9, FmtStop.pack x.data.toList) w := by kernel_rfl

/-- The string that a call has handed back. -/
def textIn : Result Next → ByteArray
  | .ok (.value (.string s)) _ => s
  | _ => ByteArray.empty

/-- fmt.Sprintf of two operands whose reading is known: SOME text; one draw. -/
theorem sp_two (f : ByteArray) (x0 x1 : Value) (c0 c1 : UInt8) (r0 r1 : List UInt8 × List UInt8) (hf : FmtStop.printed? f 2 = some [(0, c0, false), (1, c1, false)])
    (e0 : ∀ w, (FmtStop.operand "fmt.Sprintf" false c0 false x0).run Ybaf.prog w = .ok r0 w) (e1 : ∀ w, (FmtStop.operand "fmt.Sprintf" false c1 false x1).run Ybaf.prog w = .ok r1 w) :
    ∃ T : Nat → World → ByteArray, ∀ (b : Nat) (W : World), W.cell? ⟨b, 0, none⟩ = some x0 → W.cell? ⟨b, 1, none⟩ = some x1 → (callFunc 12 #[.string f, .slice (some ⟨b, 0, none⟩) 2 2]).run Ybaf.prog W = .ok (.value (.string (T b W))) W.drew := by
  refine ⟨fun b W => textIn ((callFunc 12 #[.string f, .slice (some ⟨b, 0, none⟩) 2 2]).run Ybaf.prog W), fun b W h0 h1 => ?_⟩
  have key : ∃ str, (callFunc 12 #[.string f, .slice (some ⟨b, 0, none⟩) 2 2]).run Ybaf.prog W = .ok (.value (.string str)) W.drew := by
    have e : FmtStop.sprintf #[9, 105] #[9] #[.string f, .slice (some ⟨b, 0, none⟩) 2 2] = (do
      FmtStop.guard "fmt.Sprintf"
      let vs ← FmtStop.cells (.slice (some ⟨b, 0, none⟩) 2 2)
      match FmtStop.printed? f vs.length with
      | some ps => FmtStop.text "fmt.Sprintf" [f.data.toList] (← FmtStop.readAll "fmt.Sprintf" false vs ps)
      | none => FmtStop.text "fmt.Sprintf" [f.data.toList] (← vs.mapM (FmtStop.strict "fmt.Sprintf"))) := rfl
    have hl := run_loadCells_list (P := Ybaf.prog) W ⟨b, 0, none⟩ [x0, x1] (by
      intro j v hj
      match j, hj with
      | 0, hj => simp at hj; subst hj; simpa [Addr.add] using h0
      | 1, hj => simp at hj; subst hj; simpa [Addr.add] using h1)
    rw [call12, e]
    simp only [Sem.run_bind, guard12, Result.andThen_ok, FmtStop.cells]
    rw [show (2 : Nat) = [x0, x1].length from rfl, hl]
    simp [hf, FmtStop.readAll, e0, e1, FmtStop.text, go_sem]
  obtain ⟨str, hs⟩ := key
  show _ = Result.ok (Next.value (Value.string (textIn ((callFunc 12 #[.string f, .slice (some ⟨b, 0, none⟩) 2 2]).run Ybaf.prog W)))) W.drew
  rw [hs]
  rfl

theorem Ybaf.info9 : (Ybaf.prog.info? 9).map (fun i => (i.zero, i.size, i.bytes)) = some (some (.string ByteArray.empty), 1, 16) := by kernel_rfl
theorem Ybaf.info34 : (Ybaf.prog.info? 34).map (fun i => (i.zero, i.size, i.bytes)) = some (some (.agg #[.bool false, .string ByteArray.empty, .int .i64 0, .nilIface]), 4, 48) := by kernel_rfl

/-- Nothing that was there has turned but what S names. -/
structure Kept (W W' : World) (S : Nat → Prop) : Prop where
  os : W'.os = W.os
  tape : W'.tape = W.tape
  output : W'.output = W.output
  size : W.heap.size ≤ W'.heap.size
  block : ∀ k, k < W.heap.size → ¬ S k → W'.heap[k]? = W.heap[k]?

theorem Kept.trans {A B C : World} {S S' S'' : Nat → Prop} (h : Kept A B S) (h' : Kept B C S') (hs : ∀ k, k < A.heap.size → S k → S'' k) (hs' : ∀ k, k < A.heap.size → S' k → S'' k) : Kept A C S'' :=
  ⟨h'.os.trans h.os, h'.tape.trans h.tape, h'.output.trans h.output, Nat.le_trans h.size h'.size, fun k hk hn => (h'.block k (Nat.lt_of_lt_of_le hk h.size) (fun q => hn (hs' k hk q))).trans (h.block k hk (fun q => hn (hs k hk q)))⟩
theorem Kept.of_below {A B : World} (h : Below A.heap.size A B) (S : Nat → Prop) : Kept A B S := ⟨h.os, h.tape, h.output, h.size, fun k hk _ => h.block k hk⟩

/-- The Env's block and its log. -/
structure Log (W : World) (E base : Nat) (nm nbv ev : Value) (n : Nat) (es : List Value) : Prop where
  blk : W.heap[E]? = some (.cells #[nm, nbv, ev] 29 (0, 0))
  own : W.ownsRow base 34 4 ev n es

theorem blk3_set {w : World} {b : Nat} {v0 v1 v2 u : Value} {t : TypeId} (h : w.heap[b]? = some (.cells #[v0, v1, v2] t (0, 0))) : (w.setCell ⟨b, 2, none⟩ u).heap[b]? = some (.cells #[v0, v1, u] t (0, 0)) := by
  have hlt := lt_of_block h
  have h' : w.heap[b] = .cells #[v0, v1, v2] t (0, 0) := by simpa [Array.getElem?_eq_getElem hlt] using h
  show (w.heap.modify b _)[b]? = _
  rw [Array.getElem?_eq_getElem (by simpa using hlt), Array.getElem_modify_self, h']
  rfl
theorem own_ne {w : World} {base e size n b : Nat} {v : Value} {xs : List Value} {cs : Array Value} {t : TypeId} {fr : Nat × Nat} (h : w.ownsRow base e size v n xs) (hb : w.heap[b]? = some (.cells cs t fr)) (hne : e ≠ t) : v.ownBlock ≠ some b := by
  intro q
  rcases h.2 with ⟨rfl, _⟩ | ⟨g, cap, cur, rfl, _, hg, _⟩
  · simp [Value.ownBlock] at q
  · simp [Value.ownBlock] at q
    subst q
    rw [hg] at hb
    simp at hb
    exact hne hb.2.1

/-- What one more entry does to the log. -/
theorem log_push {W w1 : World} {E base n : Nat} {nm nbv ev v' : Value} {es news : List Value} {o : Obj} (h : Log W E base nm nbv ev n es) (hown : w1.ownsRow base 34 4 v' (n + 1) (es ++ news)) (hgrow : (W.alloc o).grownBy w1 ev.ownBlock) :
    w1.heap[E]? = some (.cells #[nm, nbv, ev] 29 (0, 0)) ∧ Log (w1.setCell ⟨E, 2, none⟩ v') E base nm nbv v' (n + 1) (es ++ news) ∧ Kept W (w1.setCell ⟨E, 2, none⟩ v') (fun k => k = E ∨ some k = ev.ownBlock) := by
  have hE := lt_of_block h.blk
  have hne := own_ne h.own h.blk (by decide)
  have b1 : w1.heap[E]? = some (.cells #[nm, nbv, ev] 29 (0, 0)) := by
    rw [hgrow.block E (by simp; omega) (fun q => hne q.symm), Below.heap_alloc _ _ _ hE]
    exact h.blk
  have hne' := own_ne hown b1 (by decide)
  refine ⟨b1, ⟨blk3_set b1, ownsRow_setCell_other hown hne' _⟩, ?_, ?_, ?_, ?_, ?_⟩
  · exact hgrow.os
  · exact hgrow.tape
  · exact hgrow.output
  · have := hgrow.size; simp [World.setCell] at this ⊢; omega
  · intro k hk hn
    rw [Below.heap_setCell _ _ _ _ (by simpa using fun q => hn (.inl q)), hgrow.block k (by simp; omega) (fun q => hn (.inr q)), Below.heap_alloc _ _ _ hk]

theorem four_new (w : World) (u0 u1 u2 u3 : Value) (T : TypeId) : ∀ j u, [u0, u1, u2, u3][j]? = some u → (w.alloc (.cells #[u0, u1, u2, u3] T)).cell? ((⟨w.heap.size, 0, none⟩ : Addr).add j) = some u := by
  intro j u hj
  match j, hj with
  | 0, hj => simp at hj; subst hj; simp [Addr.add, go_sem]
  | 1, hj => simp at hj; subst hj; simp [Addr.add, go_sem]
  | 2, hj => simp at hj; subst hj; simp [Addr.add, go_sem]
  | 3, hj => simp at hj; subst hj; simp [Addr.add, go_sem]
theorem four_one (b : Bool) (s : ByteArray) (n : Int) (t : TypeId) (v : Value) : ∀ u ∈ [Value.bool b, .string s, .int .i64 n, .iface t v], u.oneCell' = true := by
  intro u hu
  simp at hu
  rcases hu with rfl | rfl | rfl | rfl <;> rfl

set_option maxHeartbeats 400000 in
/-- (*zzs0748benv).Send. -/
theorem benv_send (W : World) (E base n : Nat) (nm nbv ev : Value) (es : List Value) (to : ByteArray) (mt : TypeId) (mv : Value) (h : Log W E base nm nbv ev n es) (hb : base ≤ W.heap.size) (hn : n ≤ 10) :
    Calls Ybaf.prog 35 #[.pointer (some ⟨E, 0, none⟩), .string to, .iface mt mv] W fun e w' => e = .returned (.tuple #[]) ∧
      ∃ ev', Log w' E base nm nbv ev' (n + 1) (es ++ [.bool false, .string to, .int .i64 0, .iface mt mv]) ∧ Kept W w' (fun k => k = E ∨ some k = ev.ownBlock) := by
  obtain ⟨i0, hi, hz0, hz1, hz2⟩ := info_parts Ybaf.info34
  have c2 : W.cell? ⟨E, 2, none⟩ = some ev := by simp [World.cell?, h.blk]
  go_enter Ybaf.func35, Ybaf.ntmps35
  go_wp2_with (at_builtin; refine wpList_append_own _ rfl (.tmp 10) (.tmp 14) 27 rfl base 34 i0 (.agg #[.bool false, .string ByteArray.empty, .int .i64 0, .nilIface]) 4 48 Ybaf.underlying27 hi hz0 hz1 hz2 rfl (by decide) ev n es rfl (h.own.alloc _) ⟨W.heap.size, 0, none⟩ 1 1 [.bool false, .string to, .int .i64 0, .iface mt mv] rfl rfl (four_new _ _ _ _ _ _) (four_one _ _ _ _ _) ?q1 ?q2 ?q3 ?_)
  case q1 => unfold maxLen; omega
  case q2 => omega
  case q3 => simp; omega
  intro v' w1 hown hgrow _
  obtain ⟨b1, L, K⟩ := log_push h hown hgrow
  obtain ⟨g, cap, hv⟩ := Joins.ownsRow_form hown (by omega)
  have k1 : w1.cell? ⟨E, 2, none⟩ = some ev := by simp [World.cell?, b1]
  have k2 : w1.frozen? ⟨E, 2, none⟩ = false := by simp [World.frozen?, b1]
  rw [hv] at L K ⊢
  clear hgrow hown hv b1 c2
  go_wp2
  go_end0
  exact ⟨rfl, _, L, K⟩

set_option maxHeartbeats 400000 in
/-- (*zzs0748benv).After. -/
theorem benv_after (W : World) (E base n : Nat) (nm nbv ev : Value) (es : List Value) (ticks : Int) (mt : TypeId) (mv : Value) (h : Log W E base nm nbv ev n es) (hb : base ≤ W.heap.size) (hn : n ≤ 10) :
    Calls Ybaf.prog 32 #[.pointer (some ⟨E, 0, none⟩), .int .i64 ticks, .iface mt mv] W fun e w' => e = .returned (.tuple #[]) ∧
      ∃ ev', Log w' E base nm nbv ev' (n + 1) (es ++ [.bool true, .string ByteArray.empty, .int .i64 ticks, .iface mt mv]) ∧ Kept W w' (fun k => k = E ∨ some k = ev.ownBlock) := by
  obtain ⟨i0, hi, hz0, hz1, hz2⟩ := info_parts Ybaf.info34
  have c2 : W.cell? ⟨E, 2, none⟩ = some ev := by simp [World.cell?, h.blk]
  go_enter Ybaf.func32, Ybaf.ntmps32
  go_wp2_with (at_builtin; refine wpList_append_own _ rfl (.tmp 10) (.tmp 14) 27 rfl base 34 i0 (.agg #[.bool false, .string ByteArray.empty, .int .i64 0, .nilIface]) 4 48 Ybaf.underlying27 hi hz0 hz1 hz2 rfl (by decide) ev n es rfl (h.own.alloc _) ⟨W.heap.size, 0, none⟩ 1 1 [.bool true, .string ByteArray.empty, .int .i64 ticks, .iface mt mv] rfl rfl (four_new _ _ _ _ _ _) (four_one _ _ _ _ _) ?q1 ?q2 ?q3 ?_)
  case q1 => unfold maxLen; omega
  case q2 => omega
  case q3 => simp; omega
  intro v' w1 hown hgrow _
  obtain ⟨b1, L, K⟩ := log_push h hown hgrow
  obtain ⟨g, cap, hv⟩ := Joins.ownsRow_form hown (by omega)
  have k1 : w1.cell? ⟨E, 2, none⟩ = some ev := by simp [World.cell?, b1]
  have k2 : w1.frozen? ⟨E, 2, none⟩ = false := by simp [World.frozen?, b1]
  rw [hv] at L K ⊢
  clear hgrow hown hv b1 c2
  go_wp2
  go_end0
  exact ⟨rfl, _, L, K⟩

end Go.Proofs.YbulkoluFmt
