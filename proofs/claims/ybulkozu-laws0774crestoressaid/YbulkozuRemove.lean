/-
  SEAT b0774a: '(*cutSide).remove' (16).
-/
import Derived.Test.YbulkozuK4
import Derived.Laws.OwnMore
import Derived.RegionTactic
import Derived.ChangeAlike
namespace Go.Proofs.Ybulkozu
open Go.RowKit

set_option maxRecDepth 100000 in
set_option maxHeartbeats 2000000 in
theorem remove_any (W : World) (base S bi bn nn nc fc gr : Nat) (na fa : Option Addr) (NS F : List Int) (inn near : List Bool) (v : Int) (h : Side W base S bi bn nn na fa nc fc NS F inn near)
    (hv0 : 0 ≤ v) (hv1 : v < nn) (hn : nn ≤ 64) (hgr : gr ≤ F.length) (hF : F.length ≤ 8000000) (hN : 0 < NS.length) (hN1 : NS.length ≤ 8000) (hFb : ∀ y ∈ F, 0 ≤ y ∧ y < nn) :
    Calls Yba.prog 16 #[.pointer (some ⟨S, 0, none⟩), .int .i32 v, .int .i64 gr] W fun e w' => e = .returned (.tuple #[]) ∧
      Side w' base S bi bn nn na fa nc fc (NS.take (NS.length - 1)) (F.take gr) (inn.set v.toNat false) (clearF near (F.drop gr)) ∧
        Moves W w' S bi bn (.slice na NS.length nc) (.slice fa F.length fc) (.slice na (NS.take (NS.length - 1)).length nc) (.slice fa (F.take gr).length fc) := by
  have hvn : v.toNat < nn := by omega
  have c3 := h.cS3
  obtain ⟨r, hsl, hr⟩ := slice_from h.fown hgr
  obtain ⟨G, hG⟩ : ∃ G, G = F.drop gr := ⟨_, rfl⟩
  have hGl : F.length - gr = G.length := by rw [hG]; simp
  rw [hGl] at hsl
  have HG : Hid (G = F.drop gr) := hG
  have hGb : ∀ y ∈ G, 0 ≤ y ∧ y < nn := fun y hy => hFb y (List.drop_subset _ _ (by rw [← hG]; exact hy))
  have hGr : 0 < G.length → ∃ g, fa = some ⟨g, 0, none⟩ ∧ r = some ⟨g, gr, none⟩ := fun q => hr (by omega)
  have hG8 : G.length ≤ 8000000 := by omega
  have HGF : Hid (∀ j, j < G.length → F.getD (gr + j) 0 = G.getD j 0 ∧ gr + j < F.length) := fun j hj => ⟨by rw [hG]; simp [List.getD], by omega⟩
  clear hG hr hGl hFb
  go_enter Yba.func16, Yba.ntmps16
  go_wp2_with fail
  go_loopw [7, 15] (fun _ k wr => ∃ j : Nat, j ≤ G.length ∧ k = .int .i64 j ∧ Side wr base S bi bn nn na fa nc fc NS F inn (clearF near (G.take j)) ∧ Moves W wr S bi bn (.slice na NS.length nc) (.slice fa F.length fc) (.slice na NS.length nc) (.slice fa F.length fc))
    (fun _ k _ => G.length - (intOf k).toNat)
  case atStart => exact ⟨0, Nat.zero_le _, rfl, h, Moves.refl _ _ _ _ _ _⟩
  case round =>
    obtain ⟨j, hj, rfl, S4, M4⟩ := hrel
    clear c3 h
    by_cases hlt : j < G.length
    · obtain ⟨g, rfl, rfl⟩ := hGr (by omega)
      obtain ⟨y, hy⟩ : ∃ y, y = G.getD j 0 := ⟨_, rfl⟩
      obtain ⟨e1, e2⟩ := HGF.out j hlt
      have hyb := hGb y (by rw [hy]; simp [List.getD, hlt])
      have hcj : wr.cell? ⟨g, gr + j, none⟩ = some (.int .i32 y) := by
        rw [S4.fown.cellAt (gr + j) (by omega), hy, ← e1]
        simp [List.getD, e2]
      have HY : Hid (y = G.getD j 0) := hy
      clear hy e1 hGb hGr
      obtain ⟨y0, y1⟩ := hyb
      have hyn : y.toNat < nn := by omega
      have c2 := S4.cS2
      have cn := S4.cn hyn
      have fn := S4.fn y.toNat
      have X := S4.setNear y.toNat false
      go_wp2_with fail
      go_roundw
      case rel =>
        refine ⟨j + 1, by omega, by go_num, ?_, M4.trans X.2⟩
        rw [clear_step near G j hlt, ← HY.out]
        exact X.1
      case measure => simp [intOf]; omega
    · have ej : G.take j = G := List.take_of_length_le (by omega)
      rw [ej] at S4
      have c3 := S4.cS3
      have fS3 := S4.fS 3
      have hto := slice_to S4.fown hgr
      have X := S4.cutFront hgr
      have el : (F.take gr).length = gr := by simp; omega
      rw [el] at X
      have M5 := M4.trans X.2
      have c1 := X.1.cS1
      have ci := X.1.ci hvn
      have fi := X.1.fi v.toNat
      have Y := X.1.setIn v.toNat false
      have c0 := Y.1.cS0
      have f0 := Y.1.fS 0
      have hto2 := slice_to Y.1.nown (hi := NS.length - 1) (by omega)
      have Z := Y.1.cutNodes (m := NS.length - 1) (by omega)
      have ec : ((NS.length - 1 : Nat) : Int) = (NS.length : Int) - 1 := by omega
      rw [ec] at hto2
      go_wp2_with fail
      go_region
      go_end0
      have Y2 := Y.2
      have Z2 := Z.2
      rw [el] at Y2 Z2
      have M6 := (M5.trans Y2).trans Z2
      rw [← HG.out, el]
      exact ⟨rfl, Z.1.drew, M6.drew⟩
end Go.Proofs.Ybulkozu
