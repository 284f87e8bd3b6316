/-
  SEAT b0774a: 's[lo:]' and 's[:hi]' met in a list of operations.
-/
import Derived.Test.YbulkozuK3
namespace Go
theorem wpList_slice_from {P : Program} (w : World) {ops : Array Oper} {rest : List Oper} {o : Oper} {a : Act} {Q : Exit → Act → World → Prop}
    (hg : o.guard = none) (t : TypeId) (s l : Operand) (hop : o.op = Op.slice t s (some l) none none) (v u v' : Value) (hs : a.eval s = v) (hl : a.eval l = u)
    (hrun : ∀ w, (Instr.sliceAt t v (some u) none none).run P w = .ok v' w) (K : wpList P ops Q rest (a.put o.dst v') w) : wpList P ops Q (o :: rest) a w := by
  refine wpList_plain hg fun K' hK' => ?_
  unfold Oper.wp
  simp [execOp, hop, hs, hl, hrun, Result.andThen]
  exact hK' _ _ K
theorem wpList_slice_to {P : Program} (w : World) {ops : Array Oper} {rest : List Oper} {o : Oper} {a : Act} {Q : Exit → Act → World → Prop}
    (hg : o.guard = none) (t : TypeId) (s l : Operand) (hop : o.op = Op.slice t s none (some l) none) (v u v' : Value) (hs : a.eval s = v) (hl : a.eval l = u)
    (hrun : ∀ w, (Instr.sliceAt t v none (some u) none).run P w = .ok v' w) (K : wpList P ops Q rest (a.put o.dst v') w) : wpList P ops Q (o :: rest) a w := by
  refine wpList_plain hg fun K' hK' => ?_
  unfold Oper.wp
  simp [execOp, hop, hs, hl, hrun, Result.andThen]
  exact hK' _ _ K
end Go
namespace Go.Proofs.Ybulkozu
open Go.RowKit
theorem Kept.drew {A B : World} {T : Nat → Prop} (h : Kept A B T) : Kept A B.drew T := ⟨h.os, h.tape, h.output, h.size, h.block⟩
theorem Side.drew {W : World} {base S bi bn nn nc fc : Nat} {na fa : Option Addr} {ns fs : List Int} {inn near : List Bool} (h : Side W base S bi bn nn na fa nc fc ns fs inn near) : Side W.drew base S bi bn nn na fa nc fc ns fs inn near :=
  h.later (Kept.refl W (fun _ => False)).drew (fun _ _ q => q)
theorem Moves.drew {A B : World} {S bi bn : Nat} {n0 f0 n1 f1 : Value} (h : Moves A B S bi bn n0 f0 n1 f1) : Moves A B.drew S bi bn n0 f0 n1 f1 := ⟨h.kept.drew, h.nv, h.fv⟩
end Go.Proofs.Ybulkozu
