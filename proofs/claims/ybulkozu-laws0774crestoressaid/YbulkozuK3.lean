/-
  SEAT b0774a: a side's two rows cut shorter; 's[lo:]' and 's[:hi]' of such a row.
-/
import Derived.Test.YbulkozuAdd
namespace Go.Proofs.Ybulkozu
open Go.RowKit

theorem own_take {w : World} {base e m n cp : Nat} {a : Option Addr} {xs : List Value} (h : w.ownsRow base e 1 (.slice a n cp) n xs) (hm : m ≤ n) : w.ownsRow base e 1 (.slice a m cp) m (xs.take m) := by
  obtain ⟨h1, h2⟩ := h
  refine ⟨by simp; omega, ?_⟩
  rcases h2 with ⟨h3, h4⟩ | ⟨g, cap, cur, hv, hb, hg, hn, hc, hs, ht⟩
  · subst h4
    obtain rfl : m = 0 := by omega
    exact .inl ⟨h3, rfl⟩
  · simp at hv
    obtain ⟨rfl, rfl⟩ := hv
    refine .inr ⟨g, cp, cur, rfl, hb, hg, by omega, hc, hs, ?_⟩
    rw [← ht, List.take_take]
    congr 1
    omega
theorem own_block_len (a : Option Addr) (n m cp : Nat) : (Value.slice a n cp).ownBlock = (Value.slice a m cp).ownBlock := by cases a <;> rfl

section
variable {W : World} {base S bi bn nn nc fc : Nat} {na fa : Option Addr} {ns fs : List Int} {inn near : List Bool}
/-- 'front = front[:m]'. -/
theorem Side.cutFront (h : Side W base S bi bn nn na fa nc fc ns fs inn near) {m : Nat} (hm : m ≤ fs.length) :
    Side (W.setCell ⟨S, 3, none⟩ (.slice fa m fc)) base S bi bn nn na fa nc fc ns (fs.take m) inn near ∧ Moves W (W.setCell ⟨S, 3, none⟩ (.slice fa m fc)) S bi bn (.slice na ns.length nc) (.slice fa fs.length fc) (.slice na ns.length nc) (.slice fa (fs.take m).length fc) := by
  have K : Kept W (W.setCell ⟨S, 3, none⟩ (.slice fa m fc)) (fun k => k = S) := ⟨rfl, rfl, rfl, by simp [World.setCell], fun k hk q => Below.heap_setCell _ _ _ _ (by simpa using q)⟩
  have el : (fs.take m).length = m := by simp; omega
  refine ⟨⟨?_, ?_, ?_, h.il, h.nl, ?_, ?_, h.ne, ?_, h.gS, h.gi, h.gn, by have := h.le; simp [World.setCell]; omega⟩, ⟨K.trans (Kept.refl _ (fun _ => False)) (fun k _ q => .inl q) (fun _ _ q => q.elim), fun k q => .inl q, fun k q => .inl (by rw [el] at q; rw [own_block_len fa _ m]; exact q)⟩⟩
  · rw [blk_set h.s, el]; simp
  · rw [K.block bi h.lti h.Si.symm]; exact h.i
  · rw [K.block bn h.ltn h.Sn.symm]; exact h.n
  · exact ownsRow_setCell_other h.nown (own_ne h.nown h.s (by decide)) _
  · rw [el, List.map_take]
    exact ownsRow_setCell_other (own_take h.fown hm) (by rw [own_block_len fa m fs.length]; exact own_ne h.fown h.s (by decide)) _
  · intro k q q2
    rw [own_block_len fa _ fs.length] at q2
    exact h.apart k q q2
/-- 'nodes = nodes[:m]'. -/
theorem Side.cutNodes (h : Side W base S bi bn nn na fa nc fc ns fs inn near) {m : Nat} (hm : m ≤ ns.length) :
    Side (W.setCell ⟨S, 0, none⟩ (.slice na m nc)) base S bi bn nn na fa nc fc (ns.take m) fs inn near ∧ Moves W (W.setCell ⟨S, 0, none⟩ (.slice na m nc)) S bi bn (.slice na ns.length nc) (.slice fa fs.length fc) (.slice na (ns.take m).length nc) (.slice fa fs.length fc) := by
  have K : Kept W (W.setCell ⟨S, 0, none⟩ (.slice na m nc)) (fun k => k = S) := ⟨rfl, rfl, rfl, by simp [World.setCell], fun k hk q => Below.heap_setCell _ _ _ _ (by simpa using q)⟩
  have el : (ns.take m).length = m := by simp; omega
  refine ⟨⟨?_, ?_, ?_, h.il, h.nl, ?_, ?_, h.ne, ?_, h.gS, h.gi, h.gn, by have := h.le; simp [World.setCell]; omega⟩, ⟨K.trans (Kept.refl _ (fun _ => False)) (fun k _ q => .inl q) (fun _ _ q => q.elim), fun k q => .inl (by rw [el] at q; rw [own_block_len na _ m]; exact q), fun k q => .inl q⟩⟩
  · rw [blk_set h.s, el]; simp
  · rw [K.block bi h.lti h.Si.symm]; exact h.i
  · rw [K.block bn h.ltn h.Sn.symm]; exact h.n
  · rw [el, List.map_take]
    exact ownsRow_setCell_other (own_take h.nown hm) (by rw [own_block_len na m ns.length]; exact own_ne h.nown h.s (by decide)) _
  · exact ownsRow_setCell_other h.fown (own_ne h.fown h.s (by decide)) _
  · intro k q q2
    rw [own_block_len na _ ns.length] at q
    exact h.apart k q q2
end

/-- What a row's value looks like. -/
theorem own_look {w : World} {base e n cp : Nat} {a : Option Addr} {xs : List Value} (h : w.ownsRow base e 1 (.slice a n cp) n xs) : (a = none ∧ n = 0 ∧ cp = 0) ∨ ∃ g, a = some ⟨g, 0, none⟩ ∧ n ≤ cp ∧ cp ≤ maxLen := by
  rcases h.2 with ⟨h3, h4⟩ | ⟨g, cap, cur, hv, hb, hg, hn, hc, hs, ht⟩
  · simp at h3
    exact .inl ⟨h3.1, h4, h3.2.2⟩
  · simp at hv
    obtain ⟨rfl, rfl⟩ := hv
    exact .inr ⟨g, rfl, hn, hc⟩

/-- 's[lo:]'. -/
theorem slice_from {w0 : World} {base e n cp lo : Nat} {a : Option Addr} {xs : List Value} (h : w0.ownsRow base e 1 (.slice a n cp) n xs) (hlo : lo ≤ n) :
    ∃ r, (∀ w, (Instr.sliceAt 28 (.slice a n cp) (some (.int .i64 (lo : Int))) none none).run Yba.prog w = .ok (.slice r (n - lo) (cp - lo)) w) ∧ (lo < n → ∃ g, a = some ⟨g, 0, none⟩ ∧ r = some ⟨g, lo, none⟩) := by
  rcases own_look h with ⟨rfl, rfl, rfl⟩ | ⟨g, rfl, hn, hc⟩
  · obtain rfl : lo = 0 := by omega
    refine ⟨none, fun w => ?_, fun h => by omega⟩
    kernel_rfl
  · refine ⟨if cp = lo then some ⟨g, 0, none⟩ else some ⟨g, lo, none⟩, fun w => ?_, fun hl => ⟨g, rfl, by rw [if_neg (by omega)]⟩⟩
    unfold maxLen at hc
    have h1 : (lo : Int) ≤ (n : Int) := by omega
    simp [Instr.sliceAt, Instr.slice, go_sem, h1]

/-- 's[:hi]'. -/
theorem slice_to {w0 : World} {base e n cp hi : Nat} {a : Option Addr} {xs : List Value} (h : w0.ownsRow base e 1 (.slice a n cp) n xs) (hhi : hi ≤ n) :
    ∀ w, (Instr.sliceAt 28 (.slice a n cp) none (some (.int .i64 (hi : Int))) none).run Yba.prog w = .ok (.slice a hi cp) w := by
  intro w
  rcases own_look h with ⟨rfl, rfl, rfl⟩ | ⟨g, rfl, hn, hc⟩
  · obtain rfl : hi = 0 := by omega
    kernel_rfl
  · have h1 : (hi : Int) ≤ (cp : Int) := by omega
    simp [Instr.sliceAt, Instr.slice, go_sem, h1]
end Go.Proofs.Ybulkozu
