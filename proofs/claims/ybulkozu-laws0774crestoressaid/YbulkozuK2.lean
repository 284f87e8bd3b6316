/-
  SEAT b0774a: what each store does to a 'cutSide' in memory.
-/
import Derived.Test.YbulkozuK1
namespace Go.Proofs.Ybulkozu
open Go.RowKit

section
variable {W : World} {base S bi bn nn nc fc : Nat} {na fa : Option Addr} {ns fs : List Int} {inn near : List Bool}

theorem Side.ltS (h : Side W base S bi bn nn na fa nc fc ns fs inn near) : S < W.heap.size := lt_of_block h.s
theorem Side.lti (h : Side W base S bi bn nn na fa nc fc ns fs inn near) : bi < W.heap.size := lt_of_block h.i
theorem Side.ltn (h : Side W base S bi bn nn na fa nc fc ns fs inn near) : bn < W.heap.size := lt_of_block h.n
theorem Side.Si (h : Side W base S bi bn nn na fa nc fc ns fs inn near) : S ≠ bi := blk_ne h.s h.i (by decide)
theorem Side.Sn (h : Side W base S bi bn nn na fa nc fc ns fs inn near) : S ≠ bn := blk_ne h.s h.n (by decide)

/-- A side in a world that holds the same at its blocks. -/
theorem Side.later (h : Side W base S bi bn nn na fa nc fc ns fs inn near) {W' : World} {T : Nat → Prop} (K : Kept W W' T) (hT : ∀ k, Tc S bi bn (.slice na ns.length nc) (.slice fa fs.length fc) k → ¬ T k) : Side W' base S bi bn nn na fa nc fc ns fs inn near := by
  have e : ∀ k, k < W.heap.size → Tc S bi bn (.slice na ns.length nc) (.slice fa fs.length fc) k → W'.heap[k]? = W.heap[k]? := fun k hk q => K.block k hk (hT k q)
  refine ⟨?_, ?_, ?_, h.il, h.nl, own_kept h.nown (fun k q => e k (h.nown.lt k q).2 (.inr (.inr (.inr (.inl q))))), own_kept h.fown (fun k q => e k (h.fown.lt k q).2 (.inr (.inr (.inr (.inr q))))), h.ne, h.apart, h.gS, h.gi, h.gn, Nat.le_trans h.le K.size⟩
  · rw [e S h.ltS (.inl rfl)]; exact h.s
  · rw [e bi h.lti (.inr (.inl rfl))]; exact h.i
  · rw [e bn h.ltn (.inr (.inr (.inl rfl)))]; exact h.n
theorem Side.alloc (h : Side W base S bi bn nn na fa nc fc ns fs inn near) (o : Obj) : Side (W.alloc o) base S bi bn nn na fa nc fc ns fs inn near :=
  h.later (Kept.of_below ((Below.refl _ W).alloc (Nat.le_refl _) o) (fun _ => False)) (fun _ _ q => q)

/-- One node more. -/
theorem Side.pushNode (h : Side W base S bi bn nn na fa nc fc ns fs inn near) {o : Obj} {w1 : World} {v' : Value} {v : Int} (hown : w1.ownsRow base 21 1 v' (ns.length + 1) (ns.map (Value.int .i32) ++ [.int .i32 v]))
    (hgrow : (W.alloc o).grownBy w1 (Value.slice na ns.length nc).ownBlock) (hfr : v'.ownBlock = (Value.slice na ns.length nc).ownBlock ∨ ∃ k, v'.ownBlock = some k ∧ W.heap.size + 1 ≤ k) :
    w1.heap[S]? = W.heap[S]? ∧ ∃ na' nc', v' = .slice na' (ns.length + 1) nc' ∧ Side (w1.setCell ⟨S, 0, none⟩ (.slice na' (ns.length + 1) nc')) base S bi bn nn na' fa nc' fc (ns ++ [v]) fs inn near ∧
      Moves W (w1.setCell ⟨S, 0, none⟩ (.slice na' (ns.length + 1) nc')) S bi bn (.slice na ns.length nc) (.slice fa fs.length fc) (.slice na' (ns.length + 1) nc') (.slice fa fs.length fc) := by
  have lS := h.ltS; have li := h.lti; have ln := h.ltn
  have e : ∀ k, k < W.heap.size → (Value.slice na ns.length nc).ownBlock ≠ some k → w1.heap[k]? = W.heap[k]? := fun k hk q => (hgrow.block k (by simp; omega) (fun q' => q q'.symm)).trans (Below.heap_alloc _ _ _ hk)
  have eS := e S lS (own_ne h.nown h.s (by decide))
  have ei := e bi li (own_ne h.nown h.i (by decide))
  have en := e bn ln (own_ne h.nown h.n (by decide))
  have s1 := hgrow.size
  simp at s1
  obtain ⟨na', nc', rfl⟩ := row_form hown
  have nS := own_ne hown (eS.trans h.s) (by decide)
  refine ⟨eS, na', nc', rfl, ⟨?_, ?_, ?_, h.il, h.nl, ?_, ?_, h.ne, ?_, h.gS, h.gi, h.gn, ?_⟩, ⟨?_, ?_, ?_, ?_, ?_⟩, ?_, ?_⟩
  · rw [blk_set (eS.trans h.s)]; simp
  · rw [Below.heap_setCell _ _ _ _ (by simpa using h.Si.symm), ei]; exact h.i
  · rw [Below.heap_setCell _ _ _ _ (by simpa using h.Sn.symm), en]; exact h.n
  · have := ownsRow_setCell_other hown nS (a := ⟨S, 0, none⟩) (.slice na' (ns.length + 1) nc')
    simpa using this
  · refine own_kept h.fown (fun k q => ?_)
    have hk := (h.fown.lt k q).2
    have n1 : k ≠ S := by rintro rfl; exact own_ne h.fown h.s (by decide) q
    rw [Below.heap_setCell _ _ _ _ (by simpa using n1), e k hk (fun q' => h.apart k q' q)]
  · intro k q
    simp only [List.length_append, List.length_singleton] at q
    rcases hfr with hfr | ⟨k', hk', hge⟩
    · rw [hfr] at q; exact h.apart k q
    · rw [hk'] at q
      cases q
      intro q2
      have := (h.fown.lt _ q2).2
      omega
  · have := h.le; simp [World.setCell]; omega
  · exact hgrow.os
  · exact hgrow.tape
  · exact hgrow.output
  · simp [World.setCell]; omega
  · intro k hk q
    rw [Below.heap_setCell _ _ _ _ (by simpa using fun q' => q (.inl q')), e k hk (fun q' => q (.inr (.inr (.inr (.inl q')))))]
  · intro k q
    rcases hfr with hfr | ⟨k', hk', hge⟩
    · rw [hfr] at q; exact .inl q
    · rw [hk'] at q
      cases q
      exact .inr (by omega)
  · exact fun k q => .inl q

/-- One node more on the front. -/
theorem Side.pushFront (h : Side W base S bi bn nn na fa nc fc ns fs inn near) {o : Obj} {w1 : World} {v' : Value} {v : Int} (hown : w1.ownsRow base 21 1 v' (fs.length + 1) (fs.map (Value.int .i32) ++ [.int .i32 v]))
    (hgrow : (W.alloc o).grownBy w1 (Value.slice fa fs.length fc).ownBlock) (hfr : v'.ownBlock = (Value.slice fa fs.length fc).ownBlock ∨ ∃ k, v'.ownBlock = some k ∧ W.heap.size + 1 ≤ k) :
    w1.heap[S]? = W.heap[S]? ∧ ∃ fa' fc', v' = .slice fa' (fs.length + 1) fc' ∧ Side (w1.setCell ⟨S, 3, none⟩ (.slice fa' (fs.length + 1) fc')) base S bi bn nn na fa' nc fc' ns (fs ++ [v]) inn near ∧
      Moves W (w1.setCell ⟨S, 3, none⟩ (.slice fa' (fs.length + 1) fc')) S bi bn (.slice na ns.length nc) (.slice fa fs.length fc) (.slice na ns.length nc) (.slice fa' (fs.length + 1) fc') := by
  have lS := h.ltS; have li := h.lti; have ln := h.ltn
  have e : ∀ k, k < W.heap.size → (Value.slice fa fs.length fc).ownBlock ≠ some k → w1.heap[k]? = W.heap[k]? := fun k hk q => (hgrow.block k (by simp; omega) (fun q' => q q'.symm)).trans (Below.heap_alloc _ _ _ hk)
  have eS := e S lS (own_ne h.fown h.s (by decide))
  have ei := e bi li (own_ne h.fown h.i (by decide))
  have en := e bn ln (own_ne h.fown h.n (by decide))
  have s1 := hgrow.size
  simp at s1
  obtain ⟨fa', fc', rfl⟩ := row_form hown
  have nS := own_ne hown (eS.trans h.s) (by decide)
  refine ⟨eS, fa', fc', rfl, ⟨?_, ?_, ?_, h.il, h.nl, ?_, ?_, h.ne, ?_, h.gS, h.gi, h.gn, ?_⟩, ⟨?_, ?_, ?_, ?_, ?_⟩, ?_, ?_⟩
  · rw [blk_set (eS.trans h.s)]; simp
  · rw [Below.heap_setCell _ _ _ _ (by simpa using h.Si.symm), ei]; exact h.i
  · rw [Below.heap_setCell _ _ _ _ (by simpa using h.Sn.symm), en]; exact h.n
  · refine own_kept h.nown (fun k q => ?_)
    have hk := (h.nown.lt k q).2
    have n1 : k ≠ S := by rintro rfl; exact own_ne h.nown h.s (by decide) q
    rw [Below.heap_setCell _ _ _ _ (by simpa using n1), e k hk (h.apart k q)]
  · have := ownsRow_setCell_other hown nS (a := ⟨S, 3, none⟩) (.slice fa' (fs.length + 1) fc')
    simpa using this
  · intro k q q2
    simp only [List.length_append, List.length_singleton] at q2
    rcases hfr with hfr | ⟨k', hk', hge⟩
    · rw [hfr] at q2; exact h.apart k q q2
    · rw [hk'] at q2
      cases q2
      have := (h.nown.lt _ q).2
      omega
  · have := h.le; simp [World.setCell]; omega
  · exact hgrow.os
  · exact hgrow.tape
  · exact hgrow.output
  · simp [World.setCell]; omega
  · intro k hk q
    rw [Below.heap_setCell _ _ _ _ (by simpa using fun q' => q (.inl q')), e k hk (fun q' => q (.inr (.inr (.inr (.inr q')))))]
  · exact fun k q => .inl q
  · intro k q
    rcases hfr with hfr | ⟨k', hk', hge⟩
    · rw [hfr] at q; exact .inl q
    · rw [hk'] at q
      cases q
      exact .inr (by omega)

theorem map_set_bool (l : List Bool) (j : Nat) (b : Bool) : ((l.map Value.bool).toArray.setIfInBounds j (.bool b)) = ((l.set j b).map Value.bool).toArray := by
  simp [List.map_set]

/-- 'in[j] = b'. -/
theorem Side.setIn (h : Side W base S bi bn nn na fa nc fc ns fs inn near) (j : Nat) (b : Bool) :
    Side (W.setCell ⟨bi, j, none⟩ (.bool b)) base S bi bn nn na fa nc fc ns fs (inn.set j b) near ∧ Moves W (W.setCell ⟨bi, j, none⟩ (.bool b)) S bi bn (.slice na ns.length nc) (.slice fa fs.length fc) (.slice na ns.length nc) (.slice fa fs.length fc) := by
  have K : Kept W (W.setCell ⟨bi, j, none⟩ (.bool b)) (fun k => k = bi) := ⟨rfl, rfl, rfl, by simp [World.setCell], fun k hk q => Below.heap_setCell _ _ _ _ (by simpa using q)⟩
  refine ⟨⟨?_, ?_, ?_, by simp [h.il], h.nl, ?_, ?_, h.ne, h.apart, h.gS, h.gi, h.gn, by have := h.le; simp [World.setCell]; omega⟩, ⟨K.trans (Kept.refl _ (fun _ => False)) (fun k _ q => .inr (.inl q)) (fun _ _ q => q.elim), fun k q => .inl q, fun k q => .inl q⟩⟩
  · rw [K.block S h.ltS h.Si]; exact h.s
  · rw [blk_set h.i, map_set_bool]
  · rw [K.block bn h.ltn h.ne.symm]; exact h.n
  · exact ownsRow_setCell_other h.nown (own_ne h.nown h.i (by decide)) _
  · exact ownsRow_setCell_other h.fown (own_ne h.fown h.i (by decide)) _
/-- 'near[j] = b'. -/
theorem Side.setNear (h : Side W base S bi bn nn na fa nc fc ns fs inn near) (j : Nat) (b : Bool) :
    Side (W.setCell ⟨bn, j, none⟩ (.bool b)) base S bi bn nn na fa nc fc ns fs inn (near.set j b) ∧ Moves W (W.setCell ⟨bn, j, none⟩ (.bool b)) S bi bn (.slice na ns.length nc) (.slice fa fs.length fc) (.slice na ns.length nc) (.slice fa fs.length fc) := by
  have K : Kept W (W.setCell ⟨bn, j, none⟩ (.bool b)) (fun k => k = bn) := ⟨rfl, rfl, rfl, by simp [World.setCell], fun k hk q => Below.heap_setCell _ _ _ _ (by simpa using q)⟩
  refine ⟨⟨?_, ?_, ?_, h.il, by simp [h.nl], ?_, ?_, h.ne, h.apart, h.gS, h.gi, h.gn, by have := h.le; simp [World.setCell]; omega⟩, ⟨K.trans (Kept.refl _ (fun _ => False)) (fun k _ q => .inr (.inr (.inl q))) (fun _ _ q => q.elim), fun k q => .inl q, fun k q => .inl q⟩⟩
  · rw [K.block S h.ltS h.Sn]; exact h.s
  · rw [K.block bi h.lti h.ne]; exact h.i
  · rw [blk_set h.n, map_set_bool]
  · exact ownsRow_setCell_other h.nown (own_ne h.nown h.n (by decide)) _
  · exact ownsRow_setCell_other h.fown (own_ne h.fown h.n (by decide)) _

theorem Side.cS0 (h : Side W base S bi bn nn na fa nc fc ns fs inn near) : W.cell? ⟨S, 0, none⟩ = some (.slice na ns.length nc) := by simp [World.cell?, h.s]
theorem Side.cS1 (h : Side W base S bi bn nn na fa nc fc ns fs inn near) : W.cell? ⟨S, 1, none⟩ = some (.slice (some ⟨bi, 0, none⟩) nn nn) := by simp [World.cell?, h.s]
theorem Side.cS2 (h : Side W base S bi bn nn na fa nc fc ns fs inn near) : W.cell? ⟨S, 2, none⟩ = some (.slice (some ⟨bn, 0, none⟩) nn nn) := by simp [World.cell?, h.s]
theorem Side.cS3 (h : Side W base S bi bn nn na fa nc fc ns fs inn near) : W.cell? ⟨S, 3, none⟩ = some (.slice fa fs.length fc) := by simp [World.cell?, h.s]
theorem Side.fS (h : Side W base S bi bn nn na fa nc fc ns fs inn near) (j : Nat) : W.frozen? ⟨S, j, none⟩ = false := by simp [World.frozen?, h.s]
theorem Side.ci (h : Side W base S bi bn nn na fa nc fc ns fs inn near) {j : Nat} (hj : j < nn) : W.cell? ⟨bi, j, none⟩ = some (.bool (inn.getD j false)) := by
  have := h.il
  simp [World.cell?, h.i, List.getD, show j < inn.length by omega]
theorem Side.cn (h : Side W base S bi bn nn na fa nc fc ns fs inn near) {j : Nat} (hj : j < nn) : W.cell? ⟨bn, j, none⟩ = some (.bool (near.getD j false)) := by
  have := h.nl
  simp [World.cell?, h.n, List.getD, show j < near.length by omega]
theorem Side.fi (h : Side W base S bi bn nn na fa nc fc ns fs inn near) (j : Nat) : W.frozen? ⟨bi, j, none⟩ = false := by simp [World.frozen?, h.i]
theorem Side.fn (h : Side W base S bi bn nn na fa nc fc ns fs inn near) (j : Nat) : W.frozen? ⟨bn, j, none⟩ = false := by simp [World.frozen?, h.n]
end
end Go.Proofs.Ybulkozu
