/-
  SEAT b0774a: an append whose new row is told apart from all that lay there; what lies in memory of a 'cutSide', and what each store does to it.
-/
import Derived.Test.YbulkozuRows
import Derived.WalkKit
import Derived.WalkSpells
import Derived.WalkLawsBesides
import Derived.Below
import Derived.OneCell
import Derived.ArgAppend
import Derived.Lib.SmallJoins
import Derived.Laws.AppendOwnNone
namespace Go
open Go.RowKit

theorem ownsRow_rebase {w : World} {b b' e size n : Nat} {v : Value} {xs : List Value} (h : w.ownsRow b' e size v n xs) (hb : b ≤ b') : w.ownsRow b e size v n xs := by
  obtain ⟨h1, h2⟩ := h
  refine ⟨h1, ?_⟩
  rcases h2 with h2 | ⟨g, cap, cur, hv, hg, r⟩
  · exact .inl h2
  · exact .inr ⟨g, cap, cur, hv, Nat.le_trans hb hg, r⟩
theorem grownBy_any {w w' : World} {row : Option Nat} (h : w.grownBy w' none) : w.grownBy w' row :=
  ⟨h.os, h.tape, h.output, h.size, fun k hk _ => h.block k hk (by simp)⟩

/-- 'append' on a row of the call's own: the new value lies where the old one lay, or in a block that was not there. -/
theorem run_append_fresh {P : Program} (w : World) (base : Nat) (t ty e : TypeId) (i : TypeInfo) (z : Value) (size bytes : Nat) (ht : P.underlying t = some (.slice e)) (hi : P.info? e = some i) (hz : i.zero = some z)
    (hsize : i.size = size) (hby : i.bytes = bytes) (hzs : z.cells.size = size) (hsz : 0 < size)
    (v : Value) (n : Nat) (xs : List Value) (hown : w.ownsRow base e size v n xs)
    (a : Addr) (m c : Nat) (news : List Value) (hl : news.length = m * size) (hnews : ∀ j u, news[j]? = some u → w.cell? (a.add j) = some u) (h1 : ∀ u ∈ news, u.oneCell' = true)
    (h63 : n + m ≤ maxLen) (hbytes : (n + m) * bytes ≤ 140737488355328) (hbase : base ≤ w.heap.size) :
    ∃ v' w', (Builtin.append_ #[t, t] ty #[v, .slice (some a) m c]).run P w = .ok v' w' ∧ w'.ownsRow base e size v' (n + m) (xs ++ news) ∧ w.grownBy w' v.ownBlock ∧
      (v'.ownBlock = v.ownBlock ∨ ∃ k, v'.ownBlock = some k ∧ w.heap.size ≤ k) := by
  have hown0 := hown
  rcases hown.2 with ⟨hv, h0⟩ | ⟨g, cap, cur, hv, hbg, hg, hnc, hcm, hcs, htake⟩
  · subst hv
    subst h0
    have hxs : xs = [] := List.eq_nil_of_length_eq_zero (by simpa using hown.1)
    subst hxs
    obtain ⟨v', w', hr, r1, r2, _⟩ := run_append_own (P := P) w w.heap.size t ty e i z size bytes ht hi hz hsize hby hzs hsz (.slice none 0 0) 0 [] (World.ownsRow_nil w _ e size) a m c news hl hnews h1 h63 hbytes (Nat.le_refl _)
    refine ⟨v', w', hr, ownsRow_rebase r1 hbase, r2, ?_⟩
    cases hk : v'.ownBlock with
    | none => exact .inl rfl
    | some k => exact .inr ⟨k, rfl, (r1.lt k hk).1⟩
  · subst hv
    by_cases hroom : n + m ≤ cap
    · obtain ⟨w', hr, r1, r2⟩ := run_append_fits (P := P) w base t ty e i size ht hi hsize g n cap xs hown0 a m c news hl hnews h1 hroom
      exact ⟨_, w', hr, r1, r2, .inl rfl⟩
    · obtain ⟨v', w', hr, r1, r2⟩ := run_append_arg_grows (P := P) w t ty e i z size bytes ht hi hz hsize hby hzs hsz ⟨g, 0, none⟩ n cap xs hown0.1 (hown0.cells rfl) a m c news hl hnews (by omega) h63 hbytes
      refine ⟨v', w', hr, ownsRow_rebase r1 hbase, grownBy_any r2, ?_⟩
      cases hk : v'.ownBlock with
      | none =>
        exfalso
        rcases r1.2 with ⟨rfl, q⟩ | ⟨g', cap', cur', rfl, _⟩
        · omega
        · simp [Value.ownBlock] at hk
      | some k => exact .inr ⟨k, rfl, (r1.lt k hk).1⟩

theorem wpList_append_fresh {P : Program} (w : World) {ops : Array Oper} {rest : List Oper} {o : Oper} {a : Act} {Q : Exit → Act → World → Prop}
    (hg : o.guard = none) (s x : Operand) (t : TypeId) (hop : o.op = Op.call { callee := Callee.builtin Builtin.append, args := #[s, x], argTypes := #[t, t] })
    (base : Nat) (e : TypeId) (i : TypeInfo) (z : Value) (size bytes : Nat) (h1 : P.underlying t = some (.slice e)) (h2 : P.info? e = some i) (h3 : i.zero = some z) (h4 : i.size = size) (h5 : i.bytes = bytes) (h6 : z.cells.size = size) (h7 : 0 < size)
    (v : Value) (n : Nat) (xs : List Value) (hs : a.eval s = v) (hown : w.ownsRow base e size v n xs)
    (ad : Addr) (m c : Nat) (news : List Value) (hx : a.eval x = .slice (some ad) m c) (hn : news.length = m * size) (hc : ∀ j u, news[j]? = some u → w.cell? (ad.add j) = some u) (h1c : ∀ u ∈ news, u.oneCell' = true)
    (b1 : n + m ≤ maxLen) (b2 : (n + m) * bytes ≤ 140737488355328) (hbase : base ≤ w.heap.size)
    (hK : ∀ v' w', w'.ownsRow base e size v' (n + m) (xs ++ news) → w.grownBy w' v.ownBlock → (v'.ownBlock = v.ownBlock ∨ ∃ k, v'.ownBlock = some k ∧ w.heap.size ≤ k) → wpList P ops Q rest (a.put o.dst v') w') :
    wpList P ops Q (o :: rest) a w := by
  refine wpList_plain hg fun K hK' => ?_
  obtain ⟨v', w', hrun, r1, r2, r3⟩ := run_append_fresh (P := P) w base t o.type e i z size bytes h1 h2 h3 h4 h5 h6 h7 v n xs hown ad m c news hn hc h1c b1 b2 hbase
  unfold Oper.wp
  simp [execOp, hop, resolve, invoke, builtin, hs, hx, hrun, Result.andThen]
  exact hK' _ _ (hK v' w' r1 r2 r3)
end Go
namespace Go.Proofs.Ybulkozu
open Go.RowKit

/-- Nothing that was there has turned but what S names. -/
structure Kept (W W' : World) (S : Nat → Prop) : Prop where
  os : W'.os = W.os
  tape : W'.tape = W.tape
  output : W'.output = W.output
  size : W.heap.size ≤ W'.heap.size
  block : ∀ k, k < W.heap.size → ¬ S k → W'.heap[k]? = W.heap[k]?
theorem Kept.refl (W : World) (S : Nat → Prop) : Kept W W S := ⟨rfl, rfl, rfl, Nat.le_refl _, fun _ _ _ => rfl⟩
theorem Kept.trans {A B C : World} {S S' S'' : Nat → Prop} (h : Kept A B S) (h' : Kept B C S') (hs : ∀ k, k < A.heap.size → S k → S'' k) (hs' : ∀ k, k < A.heap.size → S' k → S'' k) : Kept A C S'' :=
  ⟨h'.os.trans h.os, h'.tape.trans h.tape, h'.output.trans h.output, Nat.le_trans h.size h'.size, fun k hk hn => (h'.block k (Nat.lt_of_lt_of_le hk h.size) (fun q => hn (hs' k hk q))).trans (h.block k hk (fun q => hn (hs k hk q)))⟩
theorem Kept.of_below {A B : World} (h : Below A.heap.size A B) (S : Nat → Prop) : Kept A B S := ⟨h.os, h.tape, h.output, h.size, fun k hk _ => h.block k hk⟩
theorem Kept.below {A B : World} {S : Nat → Prop} (h : Kept A B S) {b : Nat} (hb : b ≤ A.heap.size) (hs : ∀ k, k < b → ¬ S k) : Below b A B := ⟨h.os, h.tape, h.output, h.size, fun k hk => h.block k (by omega) (hs k hk)⟩
theorem Kept.cell {A B : World} {S : Nat → Prop} (h : Kept A B S) {p : Addr} (hp : p.block < A.heap.size) (hn : ¬ S p.block) : B.cell? p = A.cell? p := World.cell?_of_block (w := A) (h.block p.block hp hn)
theorem Kept.frozen {A B : World} {S : Nat → Prop} (h : Kept A B S) {p : Addr} (hp : p.block < A.heap.size) (hn : ¬ S p.block) : B.frozen? p = A.frozen? p := World.frozen?_of_block (w := A) (h.block p.block hp hn)

/-- A block behind one store. -/
theorem blk_set {w : World} {b j : Nat} {cs : Array Value} {u : Value} {t : TypeId} (h : w.heap[b]? = some (.cells cs t (0, 0))) : (w.setCell ⟨b, j, none⟩ u).heap[b]? = some (.cells (cs.setIfInBounds j u) t (0, 0)) := by
  have hlt := lt_of_block h
  have h' : w.heap[b] = .cells cs t (0, 0) := by simpa [Array.getElem?_eq_getElem hlt] using h
  show (w.heap.modify b _)[b]? = _
  rw [Array.getElem?_eq_getElem (by simpa using hlt), Array.getElem_modify_self, h']
  rfl
theorem own_ne {w : World} {base e size n b : Nat} {v : Value} {xs : List Value} {cs : Array Value} {t : TypeId} {fr : Nat × Nat} (h : w.ownsRow base e size v n xs) (hb : w.heap[b]? = some (.cells cs t fr)) (hne : e ≠ t) : v.ownBlock ≠ some b := by
  intro q
  rcases h.2 with ⟨rfl, _⟩ | ⟨g, cap, cur, rfl, _, hg, _⟩
  · simp [Value.ownBlock] at q
  · simp [Value.ownBlock] at q
    subst q
    rw [hg] at hb
    simp at hb
    exact hne hb.2.1
theorem blk_ne {w : World} {a b : Nat} {ca cb : Array Value} {ta tb : TypeId} {fa fb : Nat × Nat} (ha : w.heap[a]? = some (.cells ca ta fa)) (hb : w.heap[b]? = some (.cells cb tb fb)) (hne : ta ≠ tb) : a ≠ b := by
  rintro rfl
  rw [ha] at hb
  simp at hb
  exact hne hb.2.1
/-- An owned row, its block unturned. -/
theorem own_kept {w w' : World} {base e size n : Nat} {v : Value} {xs : List Value} (h : w.ownsRow base e size v n xs) (hk : ∀ k, v.ownBlock = some k → w'.heap[k]? = w.heap[k]?) : w'.ownsRow base e size v n xs := by
  obtain ⟨h1, h2⟩ := h
  refine ⟨h1, ?_⟩
  rcases h2 with h2 | ⟨g, cap, cur, e', hb, hg, r⟩
  · exact .inl h2
  · refine .inr ⟨g, cap, cur, e', hb, ?_, r⟩
    rw [hk g (by rw [e']; rfl)]
    exact hg
theorem row_form {w : World} {base e size n : Nat} {v : Value} {es : List Value} (h : w.ownsRow base e size v n es) : ∃ a cp, v = .slice a n cp := by
  rcases Joins.ownsRow_forms h with ⟨h1, h2⟩ | ⟨g, cp, h⟩
  · exact ⟨none, 0, by rw [h1, h2]⟩
  · exact ⟨_, _, h⟩

/-- A 'cutSide' in memory: its struct in block S, 'in' and 'near' in blocks bi and bn, its nodes and its front two rows of the call's own. -/
structure Side (W : World) (base S bi bn nn : Nat) (na fa : Option Addr) (nc fc : Nat) (ns fs : List Int) (inn near : List Bool) : Prop where
  s : W.heap[S]? = some (.cells #[.slice na ns.length nc, .slice (some ⟨bi, 0, none⟩) nn nn, .slice (some ⟨bn, 0, none⟩) nn nn, .slice fa fs.length fc] 31 (0, 0))
  i : W.heap[bi]? = some (.cells (inn.map Value.bool).toArray 4 (0, 0))
  n : W.heap[bn]? = some (.cells (near.map Value.bool).toArray 4 (0, 0))
  il : inn.length = nn
  nl : near.length = nn
  nown : W.ownsRow base 21 1 (.slice na ns.length nc) ns.length (ns.map (Value.int .i32))
  fown : W.ownsRow base 21 1 (.slice fa fs.length fc) fs.length (fs.map (Value.int .i32))
  ne : bi ≠ bn
  apart : ∀ k, (Value.slice na ns.length nc).ownBlock = some k → (Value.slice fa fs.length fc).ownBlock ≠ some k
  gS : base ≤ S
  gi : base ≤ bi
  gn : base ≤ bn
  le : base ≤ W.heap.size

/-- What may turn. -/
def Tc (S bi bn : Nat) (nv fv : Value) (k : Nat) : Prop := k = S ∨ k = bi ∨ k = bn ∨ nv.ownBlock = some k ∨ fv.ownBlock = some k

/-- From one state of a side to a later one. -/
structure Moves (W W' : World) (S bi bn : Nat) (nv fv nv' fv' : Value) : Prop where
  kept : Kept W W' (Tc S bi bn nv fv)
  nv : ∀ k, nv'.ownBlock = some k → nv.ownBlock = some k ∨ W.heap.size ≤ k
  fv : ∀ k, fv'.ownBlock = some k → fv.ownBlock = some k ∨ W.heap.size ≤ k
theorem Moves.refl (W : World) (S bi bn : Nat) (nv fv : Value) : Moves W W S bi bn nv fv nv fv := ⟨Kept.refl _ _, fun _ h => .inl h, fun _ h => .inl h⟩
theorem Moves.trans {A B C : World} {S bi bn : Nat} {n0 f0 n1 f1 n2 f2 : Value} (h : Moves A B S bi bn n0 f0 n1 f1) (h' : Moves B C S bi bn n1 f1 n2 f2) : Moves A C S bi bn n0 f0 n2 f2 := by
  have hs := h.kept.size
  refine ⟨h.kept.trans h'.kept (fun _ _ q => q) (fun k hk q => ?_), fun k q => ?_, fun k q => ?_⟩
  · rcases q with q | q | q | q | q
    · exact .inl q
    · exact .inr (.inl q)
    · exact .inr (.inr (.inl q))
    · rcases h.nv k q with q | q
      · exact .inr (.inr (.inr (.inl q)))
      · omega
    · rcases h.fv k q with q | q
      · exact .inr (.inr (.inr (.inr q)))
      · omega
  · rcases h'.nv k q with q | q
    · exact h.nv k q
    · exact .inr (by omega)
  · rcases h'.fv k q with q | q
    · exact h.fv k q
    · exact .inr (by omega)
/-- Below the side's base nothing has turned. -/
theorem Side.below {W W' : World} {base S bi bn nn nc fc : Nat} {na fa : Option Addr} {ns fs : List Int} {inn near : List Bool} {nv' fv' : Value} (h : Side W base S bi bn nn na fa nc fc ns fs inn near)
    (m : Moves W W' S bi bn (.slice na ns.length nc) (.slice fa fs.length fc) nv' fv') : Below base W W' := by
  refine m.kept.below h.le (fun k hk q => ?_)
  have g1 := h.gS; have g2 := h.gi; have g3 := h.gn
  rcases q with q | q | q | q | q
  · omega
  · omega
  · omega
  · have := (h.nown.lt k q).1; omega
  · have := (h.fown.lt k q).1; omega
end Go.Proofs.Ybulkozu
