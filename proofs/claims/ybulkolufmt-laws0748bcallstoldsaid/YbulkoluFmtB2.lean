/-
  SEAT b0748aF, package runtimetest: what '(*Timed).Receive' (6) does to memory: the state ahead of the call, the state behind the append to 'took', the state behind the call.
-/
import Derived.Test.YbulkoluFmtB1
import Derived.Deep.DeepCutAuto
import Derived.Deep.CutBlock
namespace Go.Proofs.YbulkoluFmt
open Go.RowKit Go.Extern.Stop Go.Stop Go.Extern

theorem meth26 (p : Addr) (w : World) : (method 207 26 (.pointer (some p)) "Neighbours").run Ybaf.prog w = .ok (34, .pointer (some p)) w ∧ (method 207 26 (.pointer (some p)) "Name").run Ybaf.prog w = .ok (33, .pointer (some p)) w ∧
    (method 207 26 (.pointer (some p)) "Send").run Ybaf.prog w = .ok (35, .pointer (some p)) w ∧ (method 207 26 (.pointer (some p)) "After").run Ybaf.prog w = .ok (32, .pointer (some p)) w := ⟨by kernel_rfl, by kernel_rfl, by kernel_rfl, by kernel_rfl⟩

/-- The state ahead of Receive: the Timed in block T, the Env in block E (nothing logged yet), its one neighbour in block N, the entries taken so far a row of the call's own. -/
structure RIn (W : World) (bT T E N : Nat) (name peer : ByteArray) (tv : Value) (ts : List ByteArray) : Prop where
  t : W.heap[T]? = some (.cells #[.bool false, tv] 25 (0, 0))
  e : W.heap[E]? = some (.cells #[.string name, .slice (some ⟨N, 0, none⟩) 1 1, .slice none 0 0] 29 (0, 0))
  nb : W.cell? ⟨N, 0, none⟩ = some (.string peer)
  own : W.ownsRow bT 9 1 tv ts.length (ts.map Value.string)
  le : bT ≤ W.heap.size
  len : ts.length ≤ 1024

/-- The state behind the append, and behind the call: W' as seen from W. -/
structure ROut (W W' : World) (bT T E N : Nat) (name : ByteArray) (tv tv' : Value) (ts' : List ByteArray) (ev : Value) (n : Nat) (es : List Value) : Prop where
  t : W'.heap[T]? = some (.cells #[.bool false, tv'] 25 (0, 0))
  own : W'.ownsRow bT 9 1 tv' ts'.length (ts'.map Value.string)
  log : Log W' E W.heap.size (.string name) (.slice (some ⟨N, 0, none⟩) 1 1) ev n es
  kept : Kept W W' (fun k => k = T ∨ k = E ∨ some k = tv.ownBlock)

theorem blk2_set {w : World} {b : Nat} {v0 v1 u : Value} {t : TypeId} (h : w.heap[b]? = some (.cells #[v0, v1] t (0, 0))) : (w.setCell ⟨b, 1, none⟩ u).heap[b]? = some (.cells #[v0, u] t (0, 0)) := by
  have hlt := lt_of_block h
  have h' : w.heap[b] = .cells #[v0, v1] t (0, 0) := by simpa [Array.getElem?_eq_getElem hlt] using h
  show (w.heap.modify b _)[b]? = _
  rw [Array.getElem?_eq_getElem (by simpa using hlt), Array.getElem_modify_self, h']
  rfl

/-- What one more entry does to 'took'. X: the world in which the append is made. -/
theorem took_push {W X w1 : World} {bT T E N : Nat} {name peer s : ByteArray} {tv v' : Value} {ts : List ByteArray} (h : RIn W bT T E N name peer tv ts) (hB : Below W.heap.size W X)
    (hown : w1.ownsRow bT 9 1 v' (ts.length + 1) (ts.map Value.string ++ [.string s])) (hgrow : X.grownBy w1 tv.ownBlock) :
    w1.heap[T]? = some (.cells #[.bool false, tv] 25 (0, 0)) ∧ ROut W (w1.setCell ⟨T, 1, none⟩ v') bT T E N name tv v' (ts ++ [s]) (.slice none 0 0) 0 [] ∧
      (∀ k, W.heap.size ≤ k → k < X.heap.size → (w1.setCell ⟨T, 1, none⟩ v').heap[k]? = X.heap[k]?) := by
  have hT := lt_of_block h.t
  have hE := lt_of_block h.e
  have hneT := own_ne h.own h.t (by decide)
  have hneE := own_ne h.own h.e (by decide)
  have hTE : T ≠ E := by
    rintro rfl
    have := h.t.symm.trans h.e
    simp at this
  have sX := hB.size
  have b1 : w1.heap[T]? = some (.cells #[.bool false, tv] 25 (0, 0)) := by
    rw [hgrow.block T (by omega) (fun q => hneT q.symm), hB.block T hT]; exact h.t
  have b2 : w1.heap[E]? = some (.cells #[.string name, .slice (some ⟨N, 0, none⟩) 1 1, .slice none 0 0] 29 (0, 0)) := by
    rw [hgrow.block E (by omega) (fun q => hneE q.symm), hB.block E hE]; exact h.e
  have hne' := own_ne hown b1 (by decide)
  refine ⟨b1, ⟨blk2_set b1, ?_, ⟨?_, World.ownsRow_nil _ _ _ _⟩, ?_, ?_, ?_, ?_, ?_⟩, ?_⟩
  · have := ownsRow_setCell_other hown hne' (a := ⟨T, 1, none⟩) v'
    simpa using this
  · rw [Below.heap_setCell _ _ _ _ (by simpa using hTE.symm)]; exact b2
  · exact hgrow.os.trans hB.os
  · exact hgrow.tape.trans hB.tape
  · exact hgrow.output.trans hB.output
  · have := hgrow.size; simp [World.setCell]; omega
  · intro k hk hn
    rw [Below.heap_setCell _ _ _ _ (by simpa using fun q => hn (.inl q)), hgrow.block k (by omega) (fun q => hn (.inr (.inr q))), hB.block k hk]
  · intro k hk hkX
    rw [Below.heap_setCell _ _ _ _ (by simp; omega)]
    refine hgrow.block k hkX (fun q => ?_)
    have := (h.own.lt k q.symm).2
    omega

/-- What a call of the Env behind the append leaves. -/
theorem ROut.logged {W W' w3 : World} {bT T E N : Nat} {name : ByteArray} {tv tv' : Value} {ts' : List ByteArray} {ev ev' : Value} {n n' : Nat} {es es' : List Value} (h : ROut W W' bT T E N name tv tv' ts' ev n es)
    (L : Log w3 E W.heap.size (.string name) (.slice (some ⟨N, 0, none⟩) 1 1) ev' n' es') (K : Kept W' w3 (fun k => k = E ∨ some k = ev.ownBlock)) :
    ROut W w3 bT T E N name tv tv' ts' ev' n' es' := by
  have hT := lt_of_block h.t
  have hTE : T ≠ E := by
    rintro rfl
    have := h.t.symm.trans h.log.blk
    simp at this
  have hne : ev.ownBlock ≠ some T := own_ne h.log.own h.t (by decide)
  refine ⟨?_, ?_, L, h.kept.trans K (fun _ _ q => q) (fun k hk q => ?_)⟩
  · rw [K.block T hT (fun q => q.elim hTE (fun q => hne q.symm))]; exact h.t
  · obtain ⟨h1, h2⟩ := h.own
    refine ⟨h1, ?_⟩
    rcases h2 with h2 | ⟨g, cap, cur, e, hb, hg, r⟩
    · exact .inl h2
    · refine .inr ⟨g, cap, cur, e, hb, ?_, r⟩
      have hgE : g ≠ E := by
        rintro rfl
        have := hg.symm.trans h.log.blk
        simp at this
      rw [K.block g (lt_of_block hg) (fun q => q.elim hgE (fun q => own_ne h.log.own hg (by decide) q.symm))]
      exact hg
  · rcases q with q | q
    · exact .inr (.inl q)
    · have := (h.log.own.lt k q.symm).1
      omega

theorem one_new3 (w : World) (o1 o2 : Obj) (u : Value) (T : TypeId) : ∀ j x, [u][j]? = some x → (((w.alloc o1).alloc o2).alloc (.cells #[u] T)).drew.drew.cell? ((⟨w.heap.size + 1 + 1, 0, none⟩ : Addr).add j) = some x := by
  intro j x hj
  match j, hj with
  | 0, hj => simp at hj; subst hj; simp [Addr.add, go_sem]
theorem one_new2 (w : World) (o1 : Obj) (u : Value) (T : TypeId) : ∀ j x, [u][j]? = some x → ((w.alloc o1).alloc (.cells #[u] T)).drew.drew.cell? ((⟨w.heap.size + 1, 0, none⟩ : Addr).add j) = some x := by
  intro j x hj
  match j, hj with
  | 0, hj => simp at hj; subst hj; simp [Addr.add, go_sem]
theorem below3 (w : World) (o1 o2 o3 : Obj) : Below w.heap.size w (((w.alloc o1).alloc o2).alloc o3).drew.drew := (((((Below.refl _ w).alloc (Nat.le_refl _) o1).alloc (by simp) o2).alloc (by simp; omega) o3).drew).drew
theorem below2 (w : World) (o1 o2 : Obj) : Below w.heap.size w ((w.alloc o1).alloc o2).drew.drew := ((((Below.refl _ w).alloc (Nat.le_refl _) o1).alloc (by simp) o2).drew).drew
theorem one_one (s : ByteArray) : ∀ u ∈ [Value.string s], u.oneCell' = true := by
  intro u hu
  simp at hu
  subst hu
  rfl
end Go.Proofs.YbulkoluFmt
