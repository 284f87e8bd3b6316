/-
  SEAT b0748aF, package runtimetest: small facts for the walk of 'LawS0748BCalls' (3).
-/
import Derived.Test.YbulkoluFmtB5
import Derived.Laws.CopyOwn
import Derived.Deep.OwnRows
namespace Go.Proofs.YbulkoluFmt
open Go.RowKit Go.Extern.Stop Go.Stop Go.Extern

theorem made_len (z : Value) (n : Nat) : (madeCells #[z] n).toList.length = n := by simp [size_madeCells]
theorem heap_made (w : World) (z : Value) (n : Nat) (t : TypeId) : (w.alloc (.cells (madeCells #[z] n) t)).heap[w.heap.size]? = some (.cells (madeCells #[z] n).toList.toArray t (0, 0)) := by
  rw [heap_alloc_new]
theorem strs_one (ts : List ByteArray) : ∀ u ∈ ts.map Value.string, u.oneCell' = true := by
  intro u hu
  obtain ⟨_, _, rfl⟩ := List.mem_map.1 hu
  rfl
theorem splice_all (cur cs : List Value) (h : cs.length = cur.length) : splice cur 0 cs = cs := by
  simp [splice, h]
theorem len_min (ts : List ByteArray) : (ts.map Value.string).length = Nat.min ts.length ts.length := by simp
theorem len_one (ts : List ByteArray) : (ts.map Value.string).length = ts.length * 1 := by simp
theorem len_made (ts : List ByteArray) : (ts.map Value.string).length = (madeCells #[.string ByteArray.empty] ts.length).toList.length := by rw [made_len]; simp
theorem copy_fit (ts : List ByteArray) : 0 + (ts.map Value.string).length ≤ (madeCells #[.string ByteArray.empty] ts.length).toList.length := by rw [← len_made]; omega
theorem len_a0 {n : Nat} (h : n ≤ 1024) : 0 + n ≤ maxLen := by unfold maxLen; omega
theorem len_b0 {n : Nat} (h : n ≤ 1024) : (0 + n) * 16 ≤ 140737488355328 := by omega
theorem copy_src {w : World} {o : Obj} {ao : Option Addr} {cap : Nat} {ts : List ByteArray} (hnone : ao = none → ts.length = 0 ∧ cap = 0) (hcell : ∀ ad, ao = some ad → ∀ j u, (ts.map Value.string)[j]? = some u → w.cell? (ad.add j) = some u) :
    0 < (ts.map Value.string).length → some (⟨w.heap.size, 0, none⟩ : Addr) = some ⟨w.heap.size, 0, none⟩ ∧ ∃ ad, ao = some ad ∧ ∀ j v, (ts.map Value.string)[j]? = some v → (w.alloc o).cell? (ad.add j) = some v := by
  intro hp
  refine ⟨rfl, ?_⟩
  cases ao with
  | none => have := (hnone rfl).1; simp at hp; omega
  | some ad => exact ⟨ad, rfl, fun j v hj => (((Below.refl _ w).alloc (Nat.le_refl _) o).cell (block_lt_of_cell (hcell ad rfl j v hj))).trans (hcell ad rfl j v hj)⟩
theorem app_src {w w1 : World} {ao : Option Addr} {ts : List ByteArray} (hcell : ∀ ad, ao = some ad → ∀ j u, (ts.map Value.string)[j]? = some u → w.cell? (ad.add j) = some u) (B1 : Below w.heap.size w w1) :
    ∀ ad, ao = some ad → ∀ j u, (ts.map Value.string)[j]? = some u → w1.cell? (ad.add j) = some u :=
  fun ad had j u hu => (B1.cell (block_lt_of_cell (hcell ad had j u hu))).trans (hcell ad had j u hu)

theorem heap_4 (w : World) (o1 o2 o3 : Obj) : (((w.alloc o1).alloc o2).alloc o3).heap[w.heap.size]? = some o1 ∧ (((w.alloc o1).alloc o2).alloc o3).heap[w.heap.size + 1]? = some o2 ∧ (((w.alloc o1).alloc o2).alloc o3).heap[w.heap.size + 1 + 1]? = some o3 := by
  show (((w.heap.push o1).push o2).push o3)[w.heap.size]? = some o1 ∧ (((w.heap.push o1).push o2).push o3)[w.heap.size + 1]? = some o2 ∧ (((w.heap.push o1).push o2).push o3)[w.heap.size + 1 + 1]? = some o3
  refine ⟨?_, ?_, ?_⟩
  · rw [Array.getElem?_push, if_neg (by simp; omega), Array.getElem?_push, if_neg (by simp), Array.getElem?_push, if_pos rfl]
  · rw [Array.getElem?_push, if_neg (by simp), Array.getElem?_push, if_pos (by simp)]
  · rw [Array.getElem?_push, if_pos (by simp)]

/-- The state ahead of the switch. -/
structure Pre (w wx : World) (bT T E N : Nat) (name peer : ByteArray) (tv : Value) (ts : List ByteArray) : Prop where
  r : RIn wx bT T E N name peer tv ts
  old : wx.heap[w.heap.size]? = some (.cells (ts.map Value.string).toArray 9 (0, 0))
  lt : w.heap.size < bT
  leT : w.heap.size ≤ T
  leE : w.heap.size ≤ E
  below : Below w.heap.size w wx

theorem Pre.later {w W W' : World} {bT T E N : Nat} {name peer : ByteArray} {tv : Value} {ts : List ByteArray} (h : Pre w W bT T E N name peer tv ts) (hB : Below W.heap.size W W') : Pre w W' bT T E N name peer tv ts := by
  have lO := lt_of_block h.old
  refine ⟨⟨?_, ?_, ?_, ?_, Nat.le_trans h.r.le hB.size, h.r.len⟩, ?_, h.lt, h.leT, h.leE, h.below.trans (hB.mono (by omega))⟩
  · rw [hB.block _ (lt_of_block h.r.t)]; exact h.r.t
  · rw [hB.block _ (lt_of_block h.r.e)]; exact h.r.e
  · exact (hB.cell (block_lt_of_cell h.r.nb)).trans h.r.nb
  · obtain ⟨h1, h2⟩ := h.r.own
    refine ⟨h1, ?_⟩
    rcases h2 with h2 | ⟨g, cap, cur, e, hb, hg, r⟩
    · exact .inl h2
    · exact .inr ⟨g, cap, cur, e, hb, by rw [hB.block g (lt_of_block hg)]; exact hg, r⟩
  · rw [hB.block _ lO]; exact h.old

theorem pre_start {w w1 w2 : World} {a2 : Option Addr} {cp2 : Nat} {name peer : ByteArray} {ts : List ByteArray} (hlen : ts.length ≤ 1024) (hO : w1.heap[w.heap.size]? = some (.cells (ts.map Value.string).toArray 9 (0, 0))) (B1 : Below w.heap.size w w1)
    (hown : w2.ownsRow w1.heap.size 9 1 (.slice a2 ts.length cp2) ts.length (ts.map Value.string)) (hgrow : w1.grownBy w2 none) :
    Pre w (((w2.alloc (.cells #[.bool false, .slice a2 ts.length cp2] 25)).alloc (.cells #[.string peer] 9)).alloc (.cells #[.string name, .slice (some ⟨w2.heap.size + 1, 0, none⟩) 1 1, .slice none 0 0] 29))
      w1.heap.size w2.heap.size (w2.heap.size + 1 + 1) (w2.heap.size + 1) name peer (.slice a2 ts.length cp2) ts := by
  have lO := lt_of_block hO
  have s2 := hgrow.size
  have H := heap_4 w2 (.cells #[.bool false, .slice a2 ts.length cp2] 25) (.cells #[.string peer] 9) (.cells #[.string name, .slice (some ⟨w2.heap.size + 1, 0, none⟩) 1 1, .slice none 0 0] 29)
  have B2 : Below w2.heap.size w2 (((w2.alloc (.cells #[.bool false, .slice a2 ts.length cp2] 25)).alloc (.cells #[.string peer] 9)).alloc (.cells #[.string name, .slice (some ⟨w2.heap.size + 1, 0, none⟩) 1 1, .slice none 0 0] 29)) := (((Below.refl _ w2).alloc (Nat.le_refl _) _).alloc (by simp) _).alloc (by simp; omega) _
  refine ⟨⟨H.1, H.2.2, ?_, ?_, by simp; omega, hlen⟩, ?_, lO, by omega, by omega, ?_⟩
  · simp only [World.cell?, H.2.1]; rfl
  · have h3 := ((hown.alloc (.cells #[.bool false, .slice a2 ts.length cp2] 25)).alloc (.cells #[.string peer] 9)).alloc (.cells #[.string name, .slice (some ⟨w2.heap.size + 1, 0, none⟩) 1 1, .slice none 0 0] 29)
    exact h3
  · rw [B2.block _ (by omega), hgrow.block _ lO (by simp)]; exact hO
  · exact (B1.grown hgrow B1.size (fun k h => by cases h)).trans (B2.mono (by omega))

/-- What one more entry of the law's own list leaves of what lay there. -/
theorem want_push {W3 w3 w4 : World} {v : Value} {n : Nat} {es : List Value} {o : Obj} (hB : Below W3.heap.size W3 w3) (h : w3.ownsRow W3.heap.size 34 4 v n es) (g4 : (w3.alloc o).grownBy w4 v.ownBlock) : Below W3.heap.size W3 w4 :=
  (hB.alloc hB.size o).grown g4 (by simp; have := hB.size; omega) (fun k hk => (h.lt k hk).1)
theorem base_le {W3 w3 : World} {o : Obj} (hB : Below W3.heap.size W3 w3) : W3.heap.size ≤ (w3.alloc o).heap.size := by simp; have := hB.size; omega
theorem wants_form {w : World} {base n : Nat} {v : Value} {es : List Value} (h : w.ownsRow base 34 4 v n es) : ∃ wa wcp, v = .slice wa n wcp := by
  rcases Joins.ownsRow_forms h with ⟨h1, h2⟩ | ⟨g, cp, h⟩
  · exact ⟨none, 0, by rw [h1, h2]⟩
  · exact ⟨_, _, h⟩

/-- What lies in memory behind Receive. -/
structure Post (w w5 : World) (bT b T E : Nat) (tv' ev : Value) (ts ts' : List ByteArray) (wv : Value) (L : List Call) (bE : Nat) : Prop where
  a : w5.cell? ⟨T, 0, none⟩ = some (.bool false)
  took : w5.cell? ⟨T, 1, none⟩ = some tv'
  log : w5.cell? ⟨E, 2, none⟩ = some ev
  town : w5.ownsRow bT 9 1 tv' ts'.length (ts'.map Value.string)
  eown : w5.ownsRow bE 34 4 ev L.length (flat L)
  wown : w5.ownsRow b 34 4 wv L.length (flat L)
  old : w5.heap[w.heap.size]? = some (.cells (ts.map Value.string).toArray 9 (0, 0))
  below : Below w.heap.size w w5

theorem post_of {w W4 w5 : World} {bT b T E N : Nat} {name peer : ByteArray} {tv tv' ev wv : Value} {ts ts' : List ByteArray} {L : List Call} (P : Pre w W4 bT T E N name peer tv ts) (R : ROut W4 w5 bT T E N name tv tv' ts' ev L.length (flat L))
    (hw : W4.ownsRow b 34 4 wv L.length (flat L)) : Post w w5 bT b T E tv' ev ts ts' wv L W4.heap.size := by
  have lO := lt_of_block P.old
  have nT : w.heap.size ≠ T := by
    rintro e
    have h1 := P.old
    rw [e] at h1
    have := h1.symm.trans P.r.t
    simp at this
  have nE : w.heap.size ≠ E := by
    rintro e
    have h1 := P.old
    rw [e] at h1
    have := h1.symm.trans P.r.e
    simp at this
  have own_ge : ∀ k, some k = tv.ownBlock → bT ≤ k := fun k hk => (P.r.own.lt k hk.symm).1
  have hlt := P.lt
  refine ⟨by simp [World.cell?, R.t], by simp [World.cell?, R.t], by simp [World.cell?, R.log.blk], R.own, R.log.own, ?_, ?_, ?_⟩
  · obtain ⟨h1, h2⟩ := hw
    refine ⟨h1, ?_⟩
    rcases h2 with h2 | ⟨g, cap, cur, e, hb, hg, r⟩
    · exact .inl h2
    · refine .inr ⟨g, cap, cur, e, hb, ?_, r⟩
      have n1 : g ≠ T := by rintro rfl; have := hg.symm.trans P.r.t; simp at this
      have n2 : g ≠ E := by rintro rfl; have := hg.symm.trans P.r.e; simp at this
      have n3 := own_ne P.r.own hg (by decide)
      rw [R.kept.block g (lt_of_block hg) (fun q => q.elim n1 (fun q => q.elim n2 (fun q => n3 q.symm)))]
      exact hg
  · rw [R.kept.block _ lO (fun q => q.elim nT (fun q => q.elim nE (fun q => by have := own_ge _ q; omega)))]
    exact P.old
  · refine P.below.trans ⟨R.kept.os, R.kept.tape, R.kept.output, R.kept.size, fun k hk => R.kept.block k (by omega) (fun q => ?_)⟩
    have h1 := P.leT
    have h2 := P.leE
    rcases q with q | q | q
    · omega
    · omega
    · have := own_ge _ q; omega
theorem took_form {w : World} {base n : Nat} {v : Value} {es : List Value} (h : w.ownsRow base 9 1 v n es) : ∃ wa wcp, v = .slice wa n wcp := by
  rcases Joins.ownsRow_forms h with ⟨h1, h2⟩ | ⟨g, cp, h⟩
  · exact ⟨none, 0, by rw [h1, h2]⟩
  · exact ⟨_, _, h⟩
theorem flat_length : ∀ L : List Call, (flat L).length = 4 * L.length
  | [] => rfl
  | (_, _, _, _) :: r => by simp [flat, flat_length r]; omega
theorem flat_get : ∀ (L : List Call) (j : Nat) (c : Call), L[j]? = some c → (flat L)[j * 4]? = some (.bool c.1) ∧ (flat L)[j * 4 + 1]? = some (.string c.2.1) ∧ (flat L)[j * 4 + 2]? = some (.int .i64 c.2.2.1) ∧ (flat L)[j * 4 + 3]? = some c.2.2.2
  | [], j, c, h => by simp at h
  | (a, t, k, m) :: r, 0, c, h => by simp at h; subst h; simp [flat]
  | (a, t, k, m) :: r, j + 1, c, h => by
    have := flat_get r j c (by simpa using h)
    rw [show (j + 1) * 4 = j * 4 + 4 by omega]
    simpa [flat, Nat.add_right_comm _ 4] using this

theorem okM.shape {m : Value} (h : okM m) : ∃ mt mv, m = .iface mt mv := by
  rcases h with ⟨i, h⟩ | ⟨i, h⟩ | ⟨s, h⟩ | ⟨s, h⟩ <;> exact ⟨_, _, h⟩
/-- Entry j of a list of calls, as its row holds it. -/
theorem entry_cells {w5 wr : World} {b g cp j : Nat} {L : List Call} {ca : Bool} {ct : ByteArray} {ck : Int} {cm : Value} (h : w5.ownsRow b 34 4 (.slice (some ⟨g, 0, none⟩) L.length cp) L.length (flat L)) (hc : L[j]? = some (ca, ct, ck, cm)) (B : Below w5.heap.size w5 wr) :
    g < wr.heap.size ∧ wr.cell? ⟨g, j * 4, none⟩ = some (.bool ca) ∧ wr.cell? ⟨g, j * 4 + 1, none⟩ = some (.string ct) ∧ wr.cell? ⟨g, j * 4 + 2, none⟩ = some (.int .i64 ck) ∧ wr.cell? ⟨g, j * 4 + 3, none⟩ = some cm := by
  have hj : j < L.length := (List.getElem?_eq_some_iff.1 hc).1
  have hg := (h.lt g rfl).2
  have F := flat_get L j _ hc
  have s := B.size
  refine ⟨by omega, ?_, ?_, ?_, ?_⟩
  · rw [B.cell (p := ⟨g, j * 4, none⟩) hg, h.cellAt _ (by omega)]; exact F.1
  · rw [B.cell (p := ⟨g, j * 4 + 1, none⟩) hg, h.cellAt _ (by omega)]; exact F.2.1
  · rw [B.cell (p := ⟨g, j * 4 + 2, none⟩) hg, h.cellAt _ (by omega)]; exact F.2.2.1
  · rw [B.cell (p := ⟨g, j * 4 + 3, none⟩) hg, h.cellAt _ (by omega)]; exact F.2.2.2

/-- Element j of 'took' and of its copy. -/
theorem took_cells {w w5 wr : World} {bT g cp j : Nat} {ts ts' : List ByteArray} {x : ByteArray} (h : w5.ownsRow bT 9 1 (.slice (some ⟨g, 0, none⟩) ts'.length cp) ts'.length (ts'.map Value.string)) (ho : w5.heap[w.heap.size]? = some (.cells (ts.map Value.string).toArray 9 (0, 0)))
    (hx : ts[j]? = some x) (hx' : ts'[j]? = some x) (B : Below w5.heap.size w5 wr) : wr.cell? ⟨g, j, none⟩ = some (.string x) ∧ wr.cell? ⟨w.heap.size, j, none⟩ = some (.string x) := by
  have hg := (h.lt g rfl).2
  have lo := lt_of_block ho
  have hj : j < ts'.length := (List.getElem?_eq_some_iff.1 hx').1
  constructor
  · rw [B.cell (p := ⟨g, j, none⟩) hg, h.cellAt _ (by omega)]
    simp [hx']
  · rw [B.cell (p := ⟨w.heap.size, j, none⟩) lo]
    simp [World.cell?, ho, hx]
end Go.Proofs.YbulkoluFmt
