/-
  SEAT b0774a: '(*cutSearch).visit' (12) where the first is found, and '(*cutSearch).grow' (9) there.
-/
import Derived.Test.YbulkozuRemove
namespace Go.Proofs.Ybulkozu
open Go.RowKit

/-- The search in memory: its struct in block Z; the way to the graph. -/
structure Search (W : World) (Z R D N A nn : Nat) (steps : Int) : Prop where
  z0 : W.cell? ⟨Z, 0, none⟩ = some (.pointer (some ⟨R, 0, none⟩))
  z2 : W.cell? ⟨Z, 2, none⟩ = some (.bool true)
  z10 : W.cell? ⟨Z, 10, none⟩ = some (.slice none 0 0)
  z15 : W.cell? ⟨Z, 15, none⟩ = some (.int .i64 steps)
  z16 : W.cell? ⟨Z, 16, none⟩ = some (.bool true)
  f15 : W.frozen? ⟨Z, 15, none⟩ = false
  r0 : W.cell? ⟨R, 0, none⟩ = some (.pointer (some ⟨D, 0, none⟩))
  d0 : W.cell? ⟨D, 0, none⟩ = some (.pointer (some ⟨N, 0, none⟩))
  n1 : W.cell? ⟨N, 1, none⟩ = some (.slice (some ⟨A, 0, none⟩) nn nn)

set_option maxRecDepth 100000 in
set_option maxHeartbeats 2000000 in
theorem visit_first (W : World) (Z R D N A nn : Nat) (h : Search W Z R D N A nn 0) (p q : Int) :
    Calls Yba.prog 12 #[.pointer (some ⟨Z, 0, none⟩), .int .i64 p, .int .i64 q] W fun e w' => e = .returned (.tuple #[]) ∧ w' = W.setCell ⟨Z, 15, none⟩ (.int .i64 1) := by
  have z2 := h.z2
  have z15 := h.z15
  have z16 := h.z16
  have f15 := h.f15
  clear h
  go_enter Yba.func12, Yba.ntmps12
  go_wp2_with fail
  exact bodyPost_ret (v := .tuple #[]) (results_none rfl _ _ _) rfl ⟨rfl, rfl⟩

theorem Search.later {W W' : World} {T : Nat → Prop} {Z R D N A nn : Nat} {st : Int} (h : Search W Z R D N A nn st) (K : Kept W W' T) (lZ : Z < W.heap.size) (lR : R < W.heap.size) (lD : D < W.heap.size) (lN : N < W.heap.size) (nZ : ¬ T Z) (nR : ¬ T R) (nD : ¬ T D) (nN : ¬ T N) : Search W' Z R D N A nn st :=
  ⟨(K.cell (p := ⟨Z, 0, none⟩) lZ nZ).trans h.z0, (K.cell (p := ⟨Z, 2, none⟩) lZ nZ).trans h.z2, (K.cell (p := ⟨Z, 10, none⟩) lZ nZ).trans h.z10, (K.cell (p := ⟨Z, 15, none⟩) lZ nZ).trans h.z15, (K.cell (p := ⟨Z, 16, none⟩) lZ nZ).trans h.z16, (K.frozen (p := ⟨Z, 15, none⟩) lZ nZ).trans h.f15,
    (K.cell (p := ⟨R, 0, none⟩) lR nR).trans h.r0, (K.cell (p := ⟨D, 0, none⟩) lD nD).trans h.d0, (K.cell (p := ⟨N, 1, none⟩) lN nN).trans h.n1⟩

/-- What may turn later, of what was there, might turn at first. -/
theorem Moves.back {A B : World} {S bi bn : Nat} {n0 f0 n1 f1 : Value} (m : Moves A B S bi bn n0 f0 n1 f1) {k : Nat} (h : Tc S bi bn n1 f1 k) : Tc S bi bn n0 f0 k ∨ A.heap.size ≤ k := by
  rcases h with q | q | q | q | q
  · exact .inl (.inl q)
  · exact .inl (.inr (.inl q))
  · exact .inl (.inr (.inr (.inl q)))
  · rcases m.nv k q with q | q
    · exact .inl (.inr (.inr (.inr (.inl q))))
    · exact .inr q
  · rcases m.fv k q with q | q
    · exact .inl (.inr (.inr (.inr (.inr q))))
    · exact .inr q

set_option maxRecDepth 100000 in
set_option maxHeartbeats 2000000 in
theorem grow_first (W : World) (base S bi bn nn A nc fc Z R D N : Nat) (na fa : Option Addr) (ns fs : List Int) (inn near : List Bool) (Y : Nat → List Int) (v : Int) (h : Side W base S bi bn nn na fa nc fc ns fs inn near) (hA : AdjAt W base A nn Y)
    (hv0 : 0 ≤ v) (hv1 : v < nn) (hn : nn ≤ 64) (hns : ns.length ≤ 4000) (hfs : fs.length ≤ 4000000) (hfb : ∀ y ∈ fs, 0 ≤ y ∧ y < nn) (hin : inn.getD v.toNat false = false)
    (hZ : Search W Z R D N A nn 0) (lZ : Z < W.heap.size) (lR : R < W.heap.size) (lD : D < W.heap.size) (lN : N < W.heap.size)
    (hT : ∀ k, Tc S bi bn (.slice na ns.length nc) (.slice fa fs.length fc) k → k ≠ Z ∧ k ≠ R ∧ k ≠ D ∧ k ≠ N) :
    Calls Yba.prog 9 #[.pointer (some ⟨Z, 0, none⟩), .int .i32 v, .pointer (some ⟨S, 0, none⟩), .int .i64 0, .int .i64 0] W fun e w' => e = .returned (.tuple #[]) ∧
      w'.cell? ⟨Z, 15, none⟩ = some (.int .i64 1) ∧ (∃ na' nc' fa' fc', Side w' base S bi bn nn na' fa' nc' fc' ns fs inn (near.set v.toNat true)) ∧ Kept W w' (fun k => Tc S bi bn (.slice na ns.length nc) (.slice fa fs.length fc) k ∨ k = Z) := by
  have z0 := hZ.z0
  have r0 := hZ.r0
  have d0 := hZ.d0
  have n1 := hZ.n1
  go_enter Yba.func9, Yba.ntmps9
  go_wp2_with fail
  refine (add_any W base S bi bn nn A nc fc na fa ns fs inn near Y _ v rfl h hA hv0 hv1 hn hns hfs).mono ?_
  rintro e w1 ⟨rfl, na1, nc1, fa1, fc1, S1, M1⟩
  clear z0 r0 d0 n1
  obtain ⟨F, hF⟩ : ∃ F, F = fs ++ (addF (near.set v.toNat true) (Y v.toNat)).2 := ⟨_, rfl⟩
  obtain ⟨NS, hNS⟩ : ∃ NS, NS = ns ++ [v] := ⟨_, rfl⟩
  obtain ⟨I1, hI⟩ : ∃ I1, I1 = inn.set v.toNat true := ⟨_, rfl⟩
  obtain ⟨N1, hN⟩ : ∃ N1, N1 = (addF (near.set v.toNat true) (Y v.toNat)).1 := ⟨_, rfl⟩
  rw [← hF, ← hNS, ← hI, ← hN] at S1
  rw [← hF, ← hNS] at M1
  have HF := (show Hid _ from hF)
  have HNS := (show Hid _ from hNS)
  have HI := (show Hid _ from hI)
  have HN := (show Hid _ from hN)
  clear hF hNS hI hN
  have Z1 := hZ.later M1.kept lZ lR lD lN (fun q => (hT _ q).1 rfl) (fun q => (hT _ q).2.1 rfl) (fun q => (hT _ q).2.2.1 rfl) (fun q => (hT _ q).2.2.2 rfl)
  have z10 := Z1.z10
  have z2 := Z1.z2
  go_wp2_with fail
  refine (visit_first w1 Z R D N A nn Z1 0 0).mono ?_
  rintro e w2 ⟨rfl, rfl⟩
  have hvn : v.toNat < nn := by omega
  have K2 : Kept w1 (w1.setCell ⟨Z, 15, none⟩ (.int .i64 1)) (fun k => k = Z) := ⟨rfl, rfl, rfl, by simp [World.setCell], fun k hk q => Below.heap_setCell _ _ _ _ (by simpa using q)⟩
  have S2 := S1.later K2 (fun k q e => by
    rcases M1.back q with q | q
    · exact (hT k q).1 e
    · omega)
  have lF : F.length ≤ 8000000 := by
    have a1 := (addF_length (Y v.toNat) (near.set v.toNat true)).2
    have a2 := hA.len v.toNat hvn
    rw [HF.out, List.length_append]
    omega
  have gF : fs.length ≤ F.length := by rw [HF.out, List.length_append]; omega
  have lN : NS.length = ns.length + 1 := by rw [HNS.out]; simp
  have bF : ∀ y ∈ F, 0 ≤ y ∧ y < nn := by
    intro y hy
    rw [HF.out, List.mem_append] at hy
    rcases hy with hy | hy
    · exact hfb y hy
    · exact hA.bd v.toNat hvn y (addF_mem _ _ y hy)
  go_wp2_with fail
  refine (remove_any _ base S bi bn nn nc1 fc1 fs.length na1 fa1 NS F I1 N1 v S2 hv0 hv1 hn gF lF (by omega) (by omega) bF).mono ?_
  rintro e w3 ⟨rfl, S3, M3⟩
  have c15 : w3.cell? ⟨Z, 15, none⟩ = some (.int .i64 1) := by
    have nT : ¬ Tc S bi bn (.slice na1 NS.length nc1) (.slice fa1 F.length fc1) Z := fun q => by
      rcases M1.back q with q | q
      · exact (hT Z q).1 rfl
      · omega
    have lz1 : Z < (w1.setCell ⟨Z, 15, none⟩ (.int .i64 1)).heap.size := by
      have := M1.kept.size
      simp [World.setCell]; omega
    rw [M3.kept.cell (p := ⟨Z, 15, none⟩) lz1 nT]
    have u15 := Z1.z15
    exact World.cell?_setCell_same _ _ _ u15
  have e1 : NS.take (NS.length - 1) = ns := by rw [HNS.out]; simp
  have e2 : F.take fs.length = fs := by rw [HF.out]; simp
  have e3 : F.drop fs.length = (addF (near.set v.toNat true) (Y v.toNat)).2 := by rw [HF.out]; simp
  have e4 : I1.set v.toNat false = inn := by
    rw [HI.out, List.set_set]
    have hl : v.toNat < inn.length := by rw [h.il]; exact hvn
    have hf : inn[v.toNat] = false := by simpa [List.getD, hl] using hin
    rw [← hf]
    exact List.set_getElem_self hl
  have e5 : clearF N1 (addF (near.set v.toNat true) (Y v.toNat)).2 = near.set v.toNat true := by
    rw [HN.out]
    refine clear_add _ _ (fun y hy => ?_)
    have := hA.bd v.toNat hvn y hy
    have := h.nl
    simp
    omega
  rw [e1, e2, e3, e4, e5] at S3
  rw [e1, e2] at M3
  have KK : Kept W w3 (fun k => Tc S bi bn (.slice na ns.length nc) (.slice fa fs.length fc) k ∨ k = Z) := by
    have s1 := M1.kept.size
    refine (M1.kept.trans K2 (S'' := fun k => Tc S bi bn (.slice na ns.length nc) (.slice fa fs.length fc) k ∨ k = Z) (fun _ _ q => .inl q) (fun _ _ q => .inr q)).trans M3.kept (fun _ _ q => q) (fun k hk q => ?_)
    rcases M1.back q with q | q
    · exact .inl q
    · omega
  clear S1 M1 S2 M3 hZ Z1 z10 z2 K2 hT HF HNS HI HN e1 e2 e3 e4 e5 hA h
  go_wp2_with fail
  go_end0
  exact ⟨rfl, c15, ⟨_, _, _, _, S3⟩, KK⟩
end Go.Proofs.Ybulkozu
