/-
  SEAT b0774a: 'zzs0774cadj' (4).
-/
import Derived.Test.YbulkozuK5
namespace Go.Proofs.Ybulkozu
open Go.RowKit

/-- What is told of a slice of integers that came in: each of its elements reads. -/
def Reads (k : IntKind) (hi : Int) (W : World) (a : Option Addr) (len : Nat) : Prop := ∀ j, j < len → ∃ p x, a = some p ∧ (p.add j).block < W.heap.size ∧ W.cell? (p.add j) = some (.int k x) ∧ 0 ≤ x ∧ x < hi

theorem low8 (x : Int) (x0 : 0 ≤ x) (x1 : x < 65536) : ∃ c, bits .and .u16 x 255 = c ∧ 0 ≤ c ∧ c < 256 := by
  refine ⟨x % 256, ?_, by omega, by omega⟩
  have hk : ∀ n : Int, 0 ≤ n → n < 2 ^ 16 → IntKind.u16.wrap n = n := fun n a b => by
    simp [IntKind.wrap, IntKind.bits, IntKind.signed]
    omega
  have := bits_mask .u16 16 (by decide) hk 8 (by decide) x x0 (by omega)
  simpa using this

set_option maxRecDepth 100000 in
set_option maxHeartbeats 2000000 in
theorem adj_any (W : World) (nn len cap : Nat) (ed : Option Addr) (h0 : 0 < nn) (h1 : nn ≤ 64) (hl : len ≤ 1024) (hE : Reads .u16 65536 W ed len) :
    Calls Yba.prog 4 #[.int .i64 nn, .slice ed len cap] W fun e w' => ∃ A Vs Y, e = .returned (.slice (some ⟨A, 0, none⟩) nn nn) ∧ Adj w' W.heap.size A nn Vs Y 2048 ∧ Below W.heap.size W w' := by
  obtain ⟨i0, hi, hz0, hz1, hz2⟩ := info_parts Yba.info21
  have hmk := make24 nn h1
  have hA0 := Adj.first W nn
  obtain ⟨W1, hW1⟩ : ∃ W1, W1 = W.alloc (.cells (List.replicate nn (Value.slice none 0 0)).toArray 28) := ⟨_, rfl⟩
  have hB0 : Below W.heap.size W W1 := by rw [hW1]; exact (Below.refl _ W).alloc (Nat.le_refl _) _
  have hmk0 := hmk W
  rw [← hW1] at hmk0 hA0
  clear hW1 hmk
  go_enter Yba.func4, Yba.ntmps4
  go_wp2_with fail
  go_loopw [7, 8, 9, 14] (fun _ _ _ k wr => ∃ (j : Nat) (Vs : List Value) (Y : Nat → List Int), j ≤ len ∧ k = .int .i64 j ∧ Adj wr W.heap.size W.heap.size nn Vs Y (2 * j) ∧ Below W.heap.size W wr)
    (fun _ _ _ k _ => len - (intOf k).toNat)
  case atStart => exact ⟨0, _, _, Nat.zero_le _, rfl, hA0, hB0⟩
  case round =>
    obtain ⟨j, Vs, Y, hj, rfl, hA, hB⟩ := hrel
    clear hA0 hB0 hmk0
    by_cases hlt : j < len
    · obtain ⟨p, x, rfl, hp, hx, x0, x1⟩ := hE j hlt
      have hxr := (hB.cell (p := p.add j) hp).trans hx
      obtain ⟨c, hc, c0, c1⟩ := low8 x x0 x1
      clear hE hx
      go_upto_region 7 with fail
      obtain ⟨a, ea, ha⟩ : ∃ a : Nat, c % (nn : Int) = a ∧ a < nn := ⟨(c % (nn : Int)).toNat, by
        have := Int.emod_nonneg c (b := (nn : Int)) (by omega)
        omega, by
        have := Int.emod_lt_of_pos c (b := (nn : Int)) (by omega)
        omega⟩
      obtain ⟨b, eb, hb⟩ : ∃ b : Nat, x / 256 % (nn : Int) = b ∧ b < nn := ⟨(x / 256 % (nn : Int)).toNat, by
        have := Int.emod_nonneg (x / 256) (b := (nn : Int)) (by omega)
        omega, by
        have := Int.emod_lt_of_pos (x / 256) (b := (nn : Int)) (by omega)
        omega⟩
      rw [ea, eb]
      clear ea eb hc c0 c1 hxr
      go_cut [] (fun wx => ∃ Vs Y, Adj wx W.heap.size W.heap.size nn Vs Y (2 * j + 1) ∧ Below W.heap.size W wx)
      case first =>
        obtain ⟨r, rc, hV, hO⟩ := hA.own a ha
        have hs := hA.sum a ha
        have hrow : wr.cell? ⟨W.heap.size, a, none⟩ = some (.slice r (Y a).length rc) := by simp [World.cell?, hA.blk, hV]
        have hs8 : (Y a).length ≤ 8000000 := by omega
        go_wp2_with (at_builtin; refine wpList_append_fresh _ rfl (.tmp 33) (.tmp 36) 28 rfl W.heap.size 21 i0 (.int .i32 0) 1 4 Yba.underlying28 hi hz0 hz1 hz2 rfl (by decide) _ _ _ rfl (hO.alloc _) ⟨wr.heap.size, 0, none⟩ 1 1 [.int .i32 (b : Int)] rfl rfl (one_new _ _ _) (one_int _ _) (small_a hs8) (small_b hs8) (le_alloc hA.le) ?_)
        intro v' w1 hown hgrow hfr
        obtain ⟨r', rc', rfl⟩ := row_form hown
        obtain ⟨eA, ⟨Y', A1⟩, B1⟩ := hA.push ha (by omega) (by omega) hV hO hown hgrow hfr
        have k0 : w1.cell? ⟨W.heap.size, a, none⟩ = some (.slice r (Y a).length rc) := by simp [World.cell?, eA, hA.blk, hV]
        have kf : w1.frozen? ⟨W.heap.size, a, none⟩ = false := by simp [World.frozen?, eA, hA.blk]
        have B2 := hB.trans B1
        clear hown hgrow hfr eA hrow hV hO
        go_wp2_with fail
        go_meet
        exact ⟨_, _, A1, B2⟩
      case rest =>
        obtain ⟨Vs1, Y1, hA1, hB1⟩ := hcut
        clear hA hB
        by_cases hab : a = b
        · subst hab
          go_wp2_with fail
          go_roundw
          case rel => exact ⟨j + 1, Vs1, Y1, by omega, by go_num, ⟨hA1.blk, hA1.len, hA1.own, hA1.apart, hA1.bd, fun a ha => by have := hA1.sum a ha; omega, hA1.gA, hA1.le⟩, hB1⟩
          case measure => simp [intOf]; omega
        · have hab' : ¬ ((a : Int) = (b : Int)) := by omega
          go_upto_region 9 with fail
          obtain ⟨r, rc, hV, hO⟩ := hA1.own b hb
          have hs := hA1.sum b hb
          have hrow : wc.cell? ⟨W.heap.size, b, none⟩ = some (.slice r (Y1 b).length rc) := by simp [World.cell?, hA1.blk, hV]
          have hs8 : (Y1 b).length ≤ 8000000 := by omega
          go_wp2_with (at_builtin; refine wpList_append_fresh _ rfl (.tmp 47) (.tmp 50) 28 rfl W.heap.size 21 i0 (.int .i32 0) 1 4 Yba.underlying28 hi hz0 hz1 hz2 rfl (by decide) _ _ _ rfl (hO.alloc _) ⟨wc.heap.size, 0, none⟩ 1 1 [.int .i32 (a : Int)] rfl rfl (one_new _ _ _) (one_int _ _) (small_a hs8) (small_b hs8) (le_alloc hA1.le) ?_)
          intro v' w1 hown hgrow hfr
          obtain ⟨r', rc', rfl⟩ := row_form hown
          obtain ⟨eA, ⟨Y', A1⟩, B1⟩ := hA1.push hb (by omega) (by omega) hV hO hown hgrow hfr
          have k0 : w1.cell? ⟨W.heap.size, b, none⟩ = some (.slice r (Y1 b).length rc) := by simp [World.cell?, eA, hA1.blk, hV]
          have kf : w1.frozen? ⟨W.heap.size, b, none⟩ = false := by simp [World.frozen?, eA, hA1.blk]
          have B2 := hB1.trans B1
          clear hown hgrow hfr eA hrow hV hO
          go_wp2_with fail
          go_roundw
          case rel => exact ⟨j + 1, _, Y', by omega, by go_num, A1, B2⟩
          case measure => simp [intOf]; omega
    · go_wp2
      go_ret
      exact ⟨_, _, _, rfl, ⟨hA.blk, hA.len, hA.own, hA.apart, hA.bd, fun a ha => by have := hA.sum a ha; omega, hA.gA, hA.le⟩, hB⟩
end Go.Proofs.Ybulkozu
