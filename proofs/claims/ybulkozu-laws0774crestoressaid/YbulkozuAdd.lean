/-
  SEAT b0774a: '(*cutSide).add' (6).
-/
import Derived.Test.YbulkozuK2
import Derived.Test.YbulkozuPlain
import Derived.Deep.DeepCutAuto
import Derived.Deep.CutBlock
namespace Go.Proofs.Ybulkozu
open Go.RowKit

theorem Yba.info21 : (Yba.prog.info? 21).map (fun i => (i.zero, i.size, i.bytes)) = some (some (.int .i32 0), 1, 4) := by kernel_rfl

/-- The graph's rows, as they lie in memory below 'base': row a holds Y a, node numbers below nn. -/
structure AdjAt (W : World) (base A nn : Nat) (Y : Nat → List Int) : Prop where
  row : ∀ a, a < nn → ∃ r cap, W.cell? ⟨A, a, none⟩ = some (.slice r (Y a).length cap) ∧ (0 < (Y a).length → ∃ g, r = some ⟨g, 0, none⟩ ∧ g < base ∧ ∀ j, j < (Y a).length → W.cell? ⟨g, j, none⟩ = some (.int .i32 ((Y a).getD j 0)))
  bd : ∀ a, a < nn → ∀ y ∈ Y a, 0 ≤ y ∧ y < nn
  len : ∀ a, a < nn → (Y a).length ≤ 2048
  lt : A < base
theorem AdjAt.later {W W' : World} {base A nn : Nat} {Y : Nat → List Int} (h : AdjAt W base A nn Y) (B : Below base W W') : AdjAt W' base A nn Y := by
  refine ⟨fun a ha => ?_, h.bd, h.len, h.lt⟩
  obtain ⟨r, cap, h1, h2⟩ := h.row a ha
  refine ⟨r, cap, (B.cell (p := ⟨A, a, none⟩) h.lt).trans h1, fun hp => ?_⟩
  obtain ⟨g, hr, hg, hc⟩ := h2 hp
  exact ⟨g, hr, hg, fun j hj => (B.cell (p := ⟨g, j, none⟩) hg).trans (hc j hj)⟩

theorem one_new (w : World) (u : Value) (T : TypeId) : ∀ j x, [u][j]? = some x → (w.alloc (.cells #[u] T)).cell? ((⟨w.heap.size, 0, none⟩ : Addr).add j) = some x := by
  intro j x hj
  match j, hj with
  | 0, hj => simp at hj; subst hj; simp [Addr.add, go_sem]
theorem one_new_at (X : World) (n : Nat) (hX : X.heap.size = n) (u : Value) (T : TypeId) : ∀ j x, [u][j]? = some x → (X.alloc (.cells #[u] T)).cell? ((⟨n, 0, none⟩ : Addr).add j) = some x := by
  subst hX
  exact one_new X u T
theorem size_set (w : World) (a : Addr) (u : Value) : (w.setCell a u).heap.size = w.heap.size := by simp [World.setCell]
theorem one_int (k : IntKind) (v : Int) : ∀ u ∈ [Value.int k v], u.oneCell' = true := by
  intro u hu
  simp at hu
  subst hu
  rfl
theorem small_a {n : Nat} (h : n ≤ 8000000) : n + 1 ≤ maxLen := by unfold maxLen; omega
theorem small_b {n : Nat} (h : n ≤ 8000000) : (n + 1) * 4 ≤ 140737488355328 := by omega
theorem le_alloc {w : World} {b : Nat} {o : Obj} (h : b ≤ w.heap.size) : b ≤ (w.alloc o).heap.size := by simp; omega

set_option maxRecDepth 100000 in
set_option maxHeartbeats 2000000 in
theorem add_any (W : World) (base S bi bn nn A nc fc : Nat) (na fa : Option Addr) (ns fs : List Int) (inn near : List Bool) (Y : Nat → List Int) (ys : List Int) (v : Int) (hY : Y v.toNat = ys) (h : Side W base S bi bn nn na fa nc fc ns fs inn near) (hA : AdjAt W base A nn Y)
    (hv0 : 0 ≤ v) (hv1 : v < nn) (hn : nn ≤ 64) (hns : ns.length ≤ 4000) (hfs : fs.length ≤ 4000000) :
    Calls Yba.prog 6 #[.pointer (some ⟨S, 0, none⟩), .int .i32 v, .slice (some ⟨A, 0, none⟩) nn nn] W fun e w' => e = .returned (.int .i64 fs.length) ∧
      ∃ na' nc' fa' fc', Side w' base S bi bn nn na' fa' nc' fc' (ns ++ [v]) (fs ++ (addF (near.set v.toNat true) ys).2) (inn.set v.toNat true) (addF (near.set v.toNat true) ys).1 ∧
        Moves W w' S bi bn (.slice na ns.length nc) (.slice fa fs.length fc) (.slice na' (ns ++ [v]).length nc') (.slice fa' (fs ++ (addF (near.set v.toNat true) ys).2).length fc') := by
  obtain ⟨i0, hi, hz0, hz1, hz2⟩ := info_parts Yba.info21
  have c0 := h.cS0
  have hvn : v.toNat < nn := by omega
  obtain ⟨r, rcap, hrow, hcells⟩ := hA.row v.toNat hvn
  have hYl := hA.len v.toNat hvn
  have hYb := hA.bd v.toNat hvn
  have lA := hA.lt
  rw [hY] at hrow hcells hYl hYb
  clear hY hA
  go_enter Yba.func6, Yba.ntmps6
  go_upto_region 1 with fail
  go_cut [] (fun wx => ∃ na' nc', Side wx base S bi bn nn na' fa nc' fc (ns ++ [v]) fs inn near ∧ Moves W wx S bi bn (.slice na ns.length nc) (.slice fa fs.length fc) (.slice na' (ns.length + 1) nc') (.slice fa fs.length fc))
  case first =>
    go_wp2_with (at_builtin; refine wpList_append_fresh _ rfl (.tmp 13) (.tmp 15) 28 rfl base 21 i0 (.int .i32 0) 1 4 Yba.underlying28 hi hz0 hz1 hz2 rfl (by decide) _ _ _ rfl (h.nown.alloc _) ⟨W.heap.size, 0, none⟩ 1 1 [.int .i32 v] rfl rfl (one_new _ _ _) (one_int _ _) (small_a (by omega)) (small_b (by omega)) (le_alloc h.le) ?_)
    intro v' w1 hown hgrow hfr
    obtain ⟨eS, na', nc', hv', S1, M1⟩ := h.pushNode hown hgrow hfr
    subst hv'
    have k0 : w1.cell? ⟨S, 0, none⟩ = some (.slice na ns.length nc) := by simp [World.cell?, eS, h.s]
    have kf : w1.frozen? ⟨S, 0, none⟩ = false := by simp [World.frozen?, eS, h.s]
    clear hown hgrow hfr eS
    go_wp2_with fail
    go_meet
    exact ⟨_, _, S1, M1⟩
  case rest =>
    obtain ⟨na1, nc1, S1, M1⟩ := hcut
    clear c0
    have c1 := S1.cS1
    have ci := S1.ci hvn
    have fi := S1.fi v.toNat
    obtain ⟨W1, hW1⟩ : ∃ W1, W1 = wc := ⟨_, rfl⟩
    subst hW1
    go_upto_region 2 with fail
    go_cut [] (fun wx => Side wx base S bi bn nn na1 fa nc1 fc (ns ++ [v]) fs (inn.set v.toNat true) near ∧ Moves W wx S bi bn (.slice na ns.length nc) (.slice fa fs.length fc) (.slice na1 (ns.length + 1) nc1) (.slice fa fs.length fc))
    case first =>
      go_wp2_with fail
      go_meet
      have X := S1.setIn v.toNat true
      exact ⟨X.1, M1.trans (by simpa using X.2)⟩
    case rest =>
      clear c1 ci fi S1 M1
      obtain ⟨S2, M2⟩ := hcut
      have c2 := S2.cS2
      have cn := S2.cn hvn
      have fn := S2.fn v.toNat
      obtain ⟨W2, hW2⟩ : ∃ W2, W2 = wc := ⟨_, rfl⟩
      subst hW2
      go_upto_region 3 with fail
      go_cut [] (fun wx => Side wx base S bi bn nn na1 fa nc1 fc (ns ++ [v]) fs (inn.set v.toNat true) (near.set v.toNat true) ∧ Moves W wx S bi bn (.slice na ns.length nc) (.slice fa fs.length fc) (.slice na1 (ns.length + 1) nc1) (.slice fa fs.length fc))
      case first =>
        go_wp2_with fail
        go_meet
        have X := S2.setNear v.toNat true
        exact ⟨X.1, M2.trans (by simpa using X.2)⟩
      case rest =>
        clear c2 cn fn S2 M2
        obtain ⟨S3, M3⟩ := hcut
        have hrow3 := ((h.below M3).cell (p := ⟨A, v.toNat, none⟩) lA).trans hrow
        have c3 := S3.cS3
        clear hrow
        go_wp2_with fail
        go_loopw [8, 41] (fun _ k wr => ∃ (j : Nat) (na' fa' : Option Addr) (nc' fc' : Nat) (nr : List Bool) (F f1 : List Int), j ≤ ys.length ∧ k = .int .i64 j ∧ Side wr base S bi bn nn na' fa' nc' fc' (ns ++ [v]) F (inn.set v.toNat true) nr ∧
            Moves W wr S bi bn (.slice na ns.length nc) (.slice fa fs.length fc) (.slice na' (ns ++ [v]).length nc') (.slice fa' F.length fc') ∧ F.length ≤ fs.length + j ∧ Hid (F = fs ++ f1 ∧ addF (near.set v.toNat true) ys = ((addF nr (ys.drop j)).1, f1 ++ (addF nr (ys.drop j)).2)))
          (fun _ k _ => ys.length - (intOf k).toNat)
        case atStart => exact ⟨0, na1, fa, nc1, fc, near.set v.toNat true, fs, [], Nat.zero_le _, rfl, S3, by simpa using M3, by omega, (show _ ∧ _ by simp)⟩
        case round =>
          obtain ⟨j, na2, fa2, nc2, fc2, nr, F, f1, hj, rfl, S4, M4, hf1, HA⟩ := hrel
          clear hrow3 c3 S3 M3
          by_cases hlt : j < ys.length
          · obtain ⟨g, rfl, hg, hc⟩ := hcells (by omega)
            have hcj := ((h.below M4).cell (p := ⟨g, j, none⟩) hg).trans (hc j hlt)
            have hyb := hYb (ys.getD j 0) (by simp [List.getD, hlt])
            obtain ⟨y, hy⟩ : ∃ y, y = ys.getD j 0 := ⟨_, rfl⟩
            rw [← hy] at hcj hyb
            have HY : Hid (y = ys.getD j 0) := hy
            clear hy hc hcells hYb
            obtain ⟨y0, y1⟩ := hyb
            have hyn : y.toNat < nn := by omega
            have c2 := S4.cS2
            have cn := S4.cn hyn
            cases hb : nr.getD y.toNat false
            · rw [hb] at cn
              have HB : Hid (nr.getD y.toNat false = false) := hb
              have fn := S4.fn y.toNat
              have X := S4.setNear y.toNat true
              have c3 := X.1.cS3
              have hfl : F.length ≤ 8000000 := by omega
              clear hb
              go_wp2_with (at_builtin; (refine wpList_append_fresh _ rfl (.tmp 63) (.tmp 65) 28 rfl base 21 i0 (.int .i32 0) 1 4 Yba.underlying28 hi hz0 hz1 hz2 rfl (by decide) _ _ _ rfl (X.1.fown.alloc _) ⟨wr.heap.size, 0, none⟩ 1 1 [.int .i32 y] rfl rfl (one_new_at _ _ (size_set _ _ _) _ _) (one_int _ _) (small_a hfl) (small_b hfl) (le_alloc X.1.le) ?_))
              intro v' w1 hown hgrow hfr
              obtain ⟨eS, fa3, fc3, hv', S5, M5⟩ := X.1.pushFront hown hgrow (by rw [size_set]; exact hfr)
              subst hv'
              have k3 : w1.cell? ⟨S, 3, none⟩ = some (.slice fa2 F.length fc2) := by simp [World.cell?, eS, X.1.s]
              have kf : w1.frozen? ⟨S, 3, none⟩ = false := by simp [World.frozen?, eS, X.1.s]
              have M6 := (M4.trans X.2).trans M5
              clear hown hgrow hfr eS X c3 c2 cn fn hcj M5 S4 M4
              go_wp2_with fail
              go_roundw
              case rel =>
                refine ⟨j + 1, na2, fa3, nc2, fc3, nr.set y.toNat true, F ++ [y], f1 ++ [y], by omega, by go_num, S5, by simpa using M6, by simp; omega, ?_⟩
                obtain ⟨e1, e2⟩ := HA.out
                refine ⟨by rw [e1]; simp, ?_⟩
                rw [e2, addF_new nr ys j hlt (by rw [← HY.out]; exact HB.out), ← HY.out]
                simp
              case measure => simp [intOf]; omega
            · rw [hb] at cn
              have HB : Hid (nr.getD y.toNat false = true) := hb
              clear hb
              go_wp2_with fail
              go_roundw
              case rel =>
                refine ⟨j + 1, na2, fa2, nc2, fc2, nr, F, f1, by omega, by go_num, S4, M4, by omega, ?_⟩
                obtain ⟨e1, e2⟩ := HA.out
                refine ⟨e1, ?_⟩
                rw [← addF_near nr ys j hlt (by rw [← HY.out]; exact HB.out)]
                exact e2
              case measure => simp [intOf]; omega
          · go_wp2
            go_ret
            have ej : j = ys.length := by omega
            obtain ⟨e1, e2⟩ := HA.out
            rw [ej, List.drop_length] at e2
            simp only [addF, List.append_nil] at e2
            rw [e2]
            rw [e1] at S4 M4
            exact ⟨rfl, na2, nc2, fa2, fc2, S4, M4⟩
end Go.Proofs.Ybulkozu
