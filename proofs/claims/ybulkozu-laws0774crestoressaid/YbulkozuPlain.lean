/-
  SEAT b0774a: the plain law: what 'add' puts on the front and marks near, 'remove' takes away again. No Go in sight.
-/
namespace Go.Proofs.Ybulkozu

/-- 'for _, y := range ys { if !near[y] { near[y] = true; front = append(front, y) } }': near behind it, and what was put on the front. -/
def addF : List Bool → List Int → List Bool × List Int
  | nr, [] => (nr, [])
  | nr, y :: ys => if nr.getD y.toNat false = true then addF nr ys else ((addF (nr.set y.toNat true) ys).1, y :: (addF (nr.set y.toNat true) ys).2)

/-- 'for _, y := range ys { near[y] = false }'. -/
def clearF (nr : List Bool) : List Int → List Bool
  | [] => nr
  | y :: ys => clearF (nr.set y.toNat false) ys

theorem clear_set : ∀ (ys : List Int) (nr : List Bool) (k : Nat), clearF (nr.set k false) ys = (clearF nr ys).set k false
  | [], _, _ => rfl
  | y :: ys, nr, k => by
    simp only [clearF]
    by_cases h : k = y.toNat
    · subst h
      rw [List.set_set, clear_set ys nr y.toNat, List.set_set]
    · rw [List.set_comm _ _ h, clear_set ys (nr.set y.toNat false) k]

theorem addF_length : ∀ (ys : List Int) (nr : List Bool), (addF nr ys).1.length = nr.length ∧ (addF nr ys).2.length ≤ ys.length
  | [], _ => by simp [addF]
  | y :: ys, nr => by
    simp only [addF]
    split
    · have := addF_length ys nr
      simp; omega
    · have := addF_length ys (nr.set y.toNat true)
      simp at this ⊢; omega

theorem clear_add : ∀ (ys : List Int) (nr : List Bool), (∀ y ∈ ys, y.toNat < nr.length) → clearF (addF nr ys).1 (addF nr ys).2 = nr
  | [], _, _ => rfl
  | y :: ys, nr, h => by
    simp only [addF]
    split
    · exact clear_add ys nr (fun z hz => h z (by simp [hz]))
    · rename_i hy
      simp only [clearF]
      have hl : y.toNat < nr.length := h y (by simp)
      rw [clear_set, clear_add ys (nr.set y.toNat true) (fun z hz => by simpa using h z (by simp [hz])), List.set_set]
      have hf : nr[y.toNat] = false := by
        simp [List.getD, hl] at hy
        exact hy
      rw [← hf]
      exact List.set_getElem_self hl

theorem addF_mem : ∀ (ys : List Int) (nr : List Bool), ∀ y ∈ (addF nr ys).2, y ∈ ys
  | [], _, y, h => by simp [addF] at h
  | z :: ys, nr, y, h => by
    simp only [addF] at h
    split at h
    · exact List.mem_cons_of_mem _ (addF_mem ys nr y h)
    · simp only [List.mem_cons] at h
      rcases h with rfl | h
      · simp
      · exact List.mem_cons_of_mem _ (addF_mem ys _ y h)

/-- One round of 'add''s loop. -/
theorem addF_near (nr : List Bool) (ys : List Int) (j : Nat) (hj : j < ys.length) (h : nr.getD (ys.getD j 0).toNat false = true) : addF nr (ys.drop j) = addF nr (ys.drop (j + 1)) := by
  rw [List.drop_eq_getElem_cons hj, addF]
  have e : ys.getD j 0 = ys[j] := by simp [List.getD, hj]
  rw [e] at h
  rw [if_pos h]
theorem addF_new (nr : List Bool) (ys : List Int) (j : Nat) (hj : j < ys.length) (h : nr.getD (ys.getD j 0).toNat false = false) :
    addF nr (ys.drop j) = ((addF (nr.set (ys.getD j 0).toNat true) (ys.drop (j + 1))).1, ys.getD j 0 :: (addF (nr.set (ys.getD j 0).toNat true) (ys.drop (j + 1))).2) := by
  rw [List.drop_eq_getElem_cons hj, addF]
  have e : ys.getD j 0 = ys[j] := by simp [List.getD, hj]
  rw [e] at h ⊢
  rw [if_neg (by rw [h]; simp)]

theorem clear_step (nr : List Bool) (ys : List Int) (j : Nat) (hj : j < ys.length) : clearF nr (ys.take (j + 1)) = (clearF nr (ys.take j)).set (ys.getD j 0).toNat false := by
  have e : ys.getD j 0 = ys[j] := by simp [List.getD, hj]
  rw [e, List.take_succ_eq_append_getElem hj]
  generalize ys.take j = l
  induction l generalizing nr with
  | nil => rfl
  | cons z l ih => simp only [List.cons_append, clearF]; exact ih _
theorem clear_length : ∀ (ys : List Int) (nr : List Bool), (clearF nr ys).length = nr.length
  | [], _ => rfl
  | y :: ys, nr => by simp [clearF, clear_length ys]
end Go.Proofs.Ybulkozu
