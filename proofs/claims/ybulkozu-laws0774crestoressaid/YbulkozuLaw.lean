/-
  SEAT b0774a: the law's own walk (3).
-/
import Derived.Test.YbulkozuK6
namespace Go.Proofs.Ybulkozu
open Go.RowKit

/-- The side between two statements of the law. -/
structure St (W w : World) (base A S bi bn nn : Nat) (Y : Nat → List Int) (m : Nat) (na fa : Option Addr) (nc fc : Nat) (ns fs : List Int) (inn near : List Bool) : Prop where
  side : Side w base S bi bn nn na fa nc fc ns fs inn near
  adj : AdjAt w base A nn Y
  nl : ns.length ≤ m
  fl : fs.length ≤ 2048 * m
  fb : ∀ y ∈ fs, 0 ≤ y ∧ y < nn
  bel : Below W.heap.size W w
  gb : W.heap.size ≤ base

theorem St.add {W w w' : World} {base A S bi bn nn nc fc nc' fc' : Nat} {Y : Nat → List Int} {m : Nat} {na fa na' fa' : Option Addr} {ns fs : List Int} {inn near : List Bool} {x : Int} (h : St W w base A S bi bn nn Y m na fa nc fc ns fs inn near) (hx : x.toNat < nn)
    (S1 : Side w' base S bi bn nn na' fa' nc' fc' (ns ++ [x]) (fs ++ (addF (near.set x.toNat true) (Y x.toNat)).2) (inn.set x.toNat true) (addF (near.set x.toNat true) (Y x.toNat)).1)
    (M : Moves w w' S bi bn (.slice na ns.length nc) (.slice fa fs.length fc) (.slice na' (ns ++ [x]).length nc') (.slice fa' (fs ++ (addF (near.set x.toNat true) (Y x.toNat)).2).length fc')) :
    St W w' base A S bi bn nn Y (m + 1) na' fa' nc' fc' (ns ++ [x]) (fs ++ (addF (near.set x.toNat true) (Y x.toNat)).2) (inn.set x.toNat true) (addF (near.set x.toNat true) (Y x.toNat)).1 := by
  have B := h.side.below M
  have a1 := (addF_length (Y x.toNat) (near.set x.toNat true)).2
  have a2 := h.adj.len x.toNat hx
  have n1 := h.nl
  have n2 := h.fl
  refine ⟨S1, h.adj.later B, by simp; omega, by simp; omega, ?_, h.bel.trans (B.mono h.gb), h.gb⟩
  intro y hy
  rw [List.mem_append] at hy
  rcases hy with hy | hy
  · exact h.fb y hy
  · exact h.adj.bd x.toNat hx y (addF_mem _ _ y hy)
theorem St.more {W w : World} {base A S bi bn nn nc fc : Nat} {Y : Nat → List Int} {m m' : Nat} {na fa : Option Addr} {ns fs : List Int} {inn near : List Bool} (h : St W w base A S bi bn nn Y m na fa nc fc ns fs inn near) (hm : m ≤ m') : St W w base A S bi bn nn Y m' na fa nc fc ns fs inn near :=
  ⟨h.side, h.adj, Nat.le_trans h.nl hm, Nat.le_trans h.fl (Nat.mul_le_mul_left _ hm), h.fb, h.bel, h.gb⟩
theorem St.later {W w w' : World} {base A S bi bn nn nc fc : Nat} {Y : Nat → List Int} {m : Nat} {na fa : Option Addr} {ns fs : List Int} {inn near : List Bool} (h : St W w base A S bi bn nn Y m na fa nc fc ns fs inn near) (K : Kept w w' (fun _ => False)) : St W w' base A S bi bn nn Y m na fa nc fc ns fs inn near := by
  have B : Below base w w' := K.below h.side.le (fun _ _ q => q)
  exact ⟨h.side.later K (fun _ _ q => q), h.adj.later B, h.nl, h.fl, h.fb, h.bel.trans (B.mono h.gb), h.gb⟩

theorem mod_some (x : Int) (nn : Nat) (h : 0 < nn) : ∃ y : Int, x % (nn : Int) = y ∧ 0 ≤ y ∧ y < nn :=
  ⟨_, rfl, Int.emod_nonneg x (by omega), Int.emod_lt_of_pos x (by omega)⟩

set_option maxRecDepth 100000 in
set_option maxHeartbeats 2000000 in
theorem law_walk (a0 a3 : Int) (W : World) (a1 a2 : Option Addr) (len1 cap1 len2 cap2 : Nat) (h0 : 0 ≤ a0) (h0' : a0 < 256) (h3 : 0 ≤ a3) (h3' : a3 < 256) (hl1 : len1 ≤ 1024) (hl2 : len2 ≤ 1024) (hE : Reads .u16 65536 W a1 len1) (hR : Reads .u8 256 W a2 len2) :
    Calls Yba.prog 3 #[.int .u8 a0, .slice a1 len1 cap1, .slice a2 len2 cap2, .int .u8 a3] W fun e w' => e = .returned (.bool true) ∧ Below W.heap.size W w' := by
  obtain ⟨nn, hnn, hn0, hn1⟩ : ∃ nn : Nat, a0 % 64 + 1 = nn ∧ 0 < nn ∧ nn ≤ 64 := ⟨(a0 % 64 + 1).toNat, by omega, by omega, by omega⟩
  go_enter Yba.func3, Yba.ntmps3
  go_wp2_with fail
  refine (adj_any W nn len1 cap1 a1 hn0 hn1 hl1 hE).mono ?_
  rintro e W1 ⟨A, Vs, Y, rfl, hA, hB1⟩
  have hA1 := hA.at (Nat.le_refl _)
  clear hE hA hnn
  go_wp2_with fail
  refine (new_side W1 nn hn1).mono ?_
  rintro e W2 ⟨S, bi, bn, rfl, S2, K2⟩
  have hs1 := hB1.size
  have hSt : St W W2 W1.heap.size A S bi bn nn Y 0 none none 0 0 [] [] (List.replicate nn false) (List.replicate nn false) := by
    have B := K2.below (b := W1.heap.size) (Nat.le_refl _) (fun _ _ q => q)
    exact ⟨S2, hA1.later B, by simp, by simp, by simp, hB1.trans (B.mono hs1), hs1⟩
  clear S2 K2 hB1 hs1 hA1
  obtain ⟨base, hbase⟩ : ∃ base, base = W1.heap.size := ⟨_, rfl⟩
  rw [← hbase] at hSt
  clear hbase
  go_wp2_with fail
  go_loopw [13, 14, 41] (fun _ _ k wr => ∃ (j : Nat) (na fa : Option Addr) (nc fc : Nat) (ns fs : List Int) (inn near : List Bool), j ≤ len2 ∧ k = .int .i64 j ∧ St W wr base A S bi bn nn Y j na fa nc fc ns fs inn near)
    (fun _ _ k _ => len2 - (intOf k).toNat)
  case atStart => exact ⟨0, _, _, _, _, _, _, _, _, Nat.zero_le _, rfl, hSt⟩
  case round =>
    obtain ⟨j, na, fa, nc, fc, ns, fs, inn, near, hj, rfl, hS⟩ := hrel
    clear hSt
    by_cases hlt : j < len2
    · obtain ⟨p, x, rfl, hp, hx, x0, x1⟩ := hR j hlt
      have hxr := (hS.bel.cell (p := p.add j) hp).trans hx
      clear hR hx
      have c1 := hS.side.cS1
      obtain ⟨y, hy, y0, y1⟩ := mod_some x nn hn0
      have hyn : y.toNat < nn := by omega
      have ci := hS.side.ci hyn
      cases hb : inn.getD y.toNat false
      · rw [hb] at ci
        clear hb
        go_wp2_with fail
        refine (add_any wr base S bi bn nn A nc fc na fa ns fs inn near Y _ y rfl hS.side hS.adj y0 y1 hn1 (by have := hS.nl; omega) (by have := hS.fl; omega)).mono ?_
        rintro e w1 ⟨rfl, na1, nc1, fa1, fc1, S1, M1⟩
        have hS1 := hS.add hyn S1 M1
        clear S1 M1 hS c1 ci hxr
        go_wp2_with fail
        go_roundw
        case rel => exact ⟨j + 1, _, _, _, _, _, _, _, _, by omega, by go_num, hS1⟩
        case measure => simp [intOf]; omega
      · rw [hb] at ci
        clear hb
        go_wp2_with fail
        go_roundw
        case rel => exact ⟨j + 1, _, _, _, _, _, _, _, _, by omega, by go_num, hS.more (by omega)⟩
        case measure => simp [intOf]; omega
    · have hS0 := hS.more (m' := 1024) (by omega)
      clear hS hR
      have c1 := hS0.side.cS1
      obtain ⟨y, hy, y0, y1⟩ := mod_some a3 nn hn0
      have hyn : y.toNat < nn := by omega
      have ci := hS0.side.ci hyn
      obtain ⟨bt, hbt⟩ : ∃ bt, bt = inn.getD y.toNat false := ⟨_, rfl⟩
      rw [← hbt] at ci
      have HB : Hid _ := hbt
      clear hbt
      go_upto_if 74 with fail
      go_cut [15] (fun u wx => wx = wr ∧ ∃ v : Int, u = .int .i32 v ∧ 0 ≤ v ∧ v < nn ∧ Hid (inn.getD v.toNat false = false))
      case first =>
        cases bt
        · go_wp2_with fail
          go_meet
          exact ⟨rfl, y, rfl, y0, y1, HB.out.symm⟩
        · clear ci HB
          go_wp2_with fail
          go_loopw [15, 16] (fun u k wx => wx = wr ∧ u = .int .i32 (-1) ∧ ∃ i : Nat, i ≤ nn ∧ k = .int .i64 i) (fun _ k _ => nn - (intOf k).toNat)
          case atStart => exact ⟨rfl, rfl, 0, Nat.zero_le _, rfl⟩
          case round =>
            obtain ⟨rfl, rfl, i, hi, rfl⟩ := hrel
            by_cases hin : i < nn
            · have cj := hS0.side.ci hin
              obtain ⟨bi', hbi⟩ : ∃ b, b = inn.getD i false := ⟨_, rfl⟩
              rw [← hbi] at cj
              have HI : Hid _ := hbi
              clear hbi
              cases bi'
              · go_wp2_with fail
                go_meet
                exact ⟨rfl, i, rfl, by omega, by omega, (by show inn.getD ((i : Int)).toNat false = false; rw [Int.toNat_natCast]; exact HI.out.symm)⟩
              · go_wp2_with fail
                go_roundw
                case rel => exact ⟨trivial, rfl, i + 1, by omega, by go_num⟩
                case measure => simp [intOf]; omega
            · go_wp2_with fail
              go_ret
              exact ⟨rfl, hS0.bel⟩
      case rest =>
        obtain ⟨rfl, v, rfl, v0, v1, HV⟩ := hcut
        clear ci c1 HB hy y0 y1 hyn
        have hvn : v.toNat < nn := by omega
        have nl := hS0.nl
        have fl := hS0.fl
        have c0 := hS0.side.cS0
        go_wp2_with fail
        refine (clone32 _ base ns.length nc na ns hS0.side.nown (by omega)).mono ?_
        rintro e w1 ⟨p1, q1, rfl, O1, K1⟩
        have S1 := hS0.later K1
        have c1 := S1.side.cS1
        clear c0
        go_wp2_with fail
        refine (cloneB _ base nn nn _ inn (S1.side.iown hn1) (by omega)).mono ?_
        rintro e w2 ⟨p2, q2, rfl, O2, K2⟩
        have S2 := S1.later K2
        have c2 := S2.side.cS2
        clear c1
        go_wp2_with fail
        refine (cloneB _ base nn nn _ near (S2.side.rown hn1) (by omega)).mono ?_
        rintro e w3 ⟨p3, q3, rfl, O3, K3⟩
        have S3 := S2.later K3
        clear c2
        obtain ⟨g, rfl⟩ : ∃ g, p3 = some ⟨g, 0, none⟩ := by
          rcases own_look O3 with ⟨_, _, _⟩ | ⟨g, rfl, _, _⟩
          · omega
          · exact ⟨g, rfl⟩
        have gg := O3.lt g rfl
        have cg : w3.cell? ⟨g, v.toNat, none⟩ = some (.bool (near.getD v.toNat false)) := by
          have := S3.side.nl
          rw [O3.cellAt v.toNat (by omega)]
          simp [List.getD, show v.toNat < near.length by omega]
        have fg := O3.frozenAt v.toNat
        have O3' := (O3.stored v.toNat (.bool true)).1
        rw [← List.map_set] at O3'
        have K4 := Kept.set w3 g v.toNat (.bool true)
        have s1 := K1.size
        have s2 := K2.size
        have s3 := K3.size
        have sd3 : Side (w3.setCell ⟨g, v.toNat, none⟩ (.bool true)) base S bi bn nn na fa nc fc ns fs inn near := S3.side.later K4 (fun k q e => by
          have := S2.side.tc_lt q
          omega)
        have c3 := sd3.cS3
        go_wp2_with fail
        refine (clone32 _ base fs.length fc fa fs sd3.fown (by omega)).mono ?_
        rintro e w5 ⟨p5, q5, rfl, O5, K5⟩
        have l1 := fun k q => (O1.lt k q).2
        have l2 := fun k q => (O2.lt k q).2
        have P1 := own_later (own_later (own_later (own_later O1 K2 (fun _ _ _ _ q => q)) K3 (fun _ _ _ _ q => q)) K4 (fun k q _ _ e => by have := l1 k q; omega)) K5 (fun _ _ _ _ q => q)
        have P2 := own_later (own_later (own_later O2 K3 (fun _ _ _ _ q => q)) K4 (fun k q _ _ e => by have := l2 k q; omega)) K5 (fun _ _ _ _ q => q)
        have P3 := own_later O3' K5 (fun _ _ _ _ q => q)
        have S5 : St W w5 base A S bi bn nn Y 1024 na fa nc fc ns fs inn near := by
          have B4 : Below base w3 (w3.setCell ⟨g, v.toNat, none⟩ (.bool true)) := K4.below S3.side.le (fun k hk e => by have := S2.side.le; omega)
          exact (⟨sd3, S3.adj.later B4, S3.nl, S3.fl, S3.fb, S3.bel.trans (B4.mono S3.gb), S3.gb⟩ : St W (w3.setCell ⟨g, v.toNat, none⟩ (.bool true)) base A S bi bn nn Y 1024 na fa nc fc ns fs inn near).later K5
        have s5 := K5.size
        rw [size_set] at s5 O5
        have T0 : ∀ k, Tc S bi bn (.slice na ns.length nc) (.slice fa fs.length fc) k → k < wc.heap.size := fun k q => hS0.side.tc_lt q
        clear S1 S2 S3 sd3 c3 O1 O2 O3 O3' K1 K2 K3 K4 K5 l1 l2 cg fg
        go_upto_region 28 with fail
        go_cut [21] (fun u wx => ∃ Z R D N, u = .pointer (some ⟨Z, 0, none⟩) ∧ Search wx Z R D N A nn 0 ∧ Kept w5 wx (fun _ => False) ∧ w5.heap.size ≤ Z ∧ w5.heap.size ≤ R ∧ w5.heap.size ≤ D ∧ w5.heap.size ≤ N ∧ Z < wx.heap.size ∧ R < wx.heap.size ∧ D < wx.heap.size ∧ N < wx.heap.size)
        case first =>
          go_wp2_with fail
          go_meet
          exact search_made w5 A nn _ _ _ _ _ rfl rfl rfl rfl rfl rfl rfl rfl rfl
        case rest =>
          obtain ⟨Z, R, D, N, rfl, HZ, K6, gZ, gR, gD, gN, lZ, lR, lD, lN⟩ := hcut
          have S6 := S5.later K6
          have m1 := fun k q => (P1.lt k q).2
          have m2 := fun k q => (P2.lt k q).2
          have m3 := fun k q => (P3.lt k q).2
          have m5 := fun k q => (O5.lt k q).2
          have sb := S5.side.le
          have P1 := own_later P1 K6 (fun _ _ _ _ q => q)
          have P2 := own_later P2 K6 (fun _ _ _ _ q => q)
          have P3 := own_later P3 K6 (fun _ _ _ _ q => q)
          have P5 := own_later O5 K6 (fun _ _ _ _ q => q)
          go_wp2_with fail
          refine (grow_first _ base S bi bn nn A nc fc Z R D N na fa ns fs inn near Y v S6.side S6.adj v0 v1 hn1 (by omega) (by omega) S6.fb HV.out HZ lZ lR lD lN (fun k q => by have := T0 k q; omega)).mono ?_
          rintro e w7 ⟨rfl, c15, ⟨na7, nc7, fa7, fc7, S7⟩, K7⟩
          have R1 := own_later P1 K7 (fun k q g1 _ e => by
            rcases e with e | e
            · have := T0 k e; omega
            · have := m1 k q; omega)
          have R2 := own_later P2 K7 (fun k q g1 _ e => by
            rcases e with e | e
            · have := T0 k e; omega
            · have := m2 k q; omega)
          have R3 := own_later P3 K7 (fun k q g1 _ e => by
            rcases e with e | e
            · have := T0 k e; omega
            · have := m3 k q; omega)
          have R5 := own_later P5 K7 (fun k q g1 _ e => by
            rcases e with e | e
            · have := T0 k e; omega
            · have := m5 k q; omega)
          have B7 : Below W.heap.size W w7 := S6.bel.trans ((K7.below S6.side.le (fun k hk e => by
            rcases e with e | e
            · have := S6.side.tc_ge e; omega
            · omega)).mono S6.gb)
          clear P1 P2 P3 P5 O5 m1 m2 m3 m5 T0 K6 K7 S5 S6 HZ HV hS0
          have c0 := S7.cS0
          go_wp2_with fail
          refine (equal32 _ base _ ns.length nc7 q1 na7 p1 ns S7.nown R1 (by omega)).mono ?_
          rintro e w8 ⟨rfl, K8⟩
          have S8 := S7.later K8 (fun _ _ q => q)
          have R2 := own_later R2 K8 (fun _ _ _ _ q => q)
          have R3 := own_later R3 K8 (fun _ _ _ _ q => q)
          have R5 := own_later R5 K8 (fun _ _ _ _ q => q)
          have B8 := B7.trans (K8.below B7.size (fun _ _ q => q))
          have c1 := S8.cS1
          clear c0 c15 S7 R1 B7 K8
          go_wp2_with fail
          refine (equalB _ base _ nn nn q2 _ p2 inn (S8.iown hn1) R2 (by omega)).mono ?_
          rintro e w9 ⟨rfl, K9⟩
          have S9 := S8.later K9 (fun _ _ q => q)
          have R3 := own_later R3 K9 (fun _ _ _ _ q => q)
          have R5 := own_later R5 K9 (fun _ _ _ _ q => q)
          have B9 := B8.trans (K9.below B8.size (fun _ _ q => q))
          have c2 := S9.cS2
          clear c1 S8 R2 B8 K9
          go_wp2_with fail
          refine (equalB _ base _ nn nn q3 _ _ (near.set v.toNat true) (S9.rown hn1) R3 (by omega)).mono ?_
          rintro e w10 ⟨rfl, K10⟩
          have S10 := S9.later K10 (fun _ _ q => q)
          have R5 := own_later R5 K10 (fun _ _ _ _ q => q)
          have B10 := B9.trans (K10.below B9.size (fun _ _ q => q))
          have c3 := S10.cS3
          clear c2 S9 R3 B9 K10
          go_wp2_with fail
          refine (equal32 _ base _ fs.length fc7 q5 fa7 p5 fs S10.fown R5 (by omega)).mono ?_
          rintro e w11 ⟨rfl, K11⟩
          have B11 := B10.trans (K11.below B10.size (fun _ _ q => q))
          clear c3 S10 R5 B10 K11
          go_wp2_with fail
          go_ret
          exact ⟨rfl, B11⟩
end Go.Proofs.Ybulkozu
