/-
  peers.LawS0747BBuilt (4): the walk, a theorem a way through its tests (the texts of the six differ in their tests alone).
-/
import Derived.Test.YbulkolgWalks
namespace Go.Proofs.Ybulkolg
open Go.RowKit
set_option linter.unusedVariables false

theorem Yba.info5 : (Yba.prog.info? 5).map (fun i => (i.zero, i.size, i.bytes)) = some (some (.int .u8 0), 1, 1) := by kernel_rfl

set_option maxHeartbeats 1000000 in
theorem built_0 (a0 a1 : Int) (a2 : Option Addr) (n cap : Nat) (T : List Int) (w : World) (h0 : 0 ≤ a0 ∧ a0 ≤ 255) (h1 : 0 ≤ a1 ∧ a1 ≤ 255) (hn : n ≤ 1024) (hT : T.length = n) (hnone : a2 = none → n = 0 ∧ cap = 0)
    (hcell : ∀ ad, a2 = some ad → ∀ j u, (T.map (Value.int .u8))[j]? = some u → w.cell? (ad.add j) = some u) (hm : a0 % 4 = 0) :
    Calls Yba.prog 4 #[.int .u8 a0, .int .u8 a1, .slice a2 n cap] w fun e w' => e = .returned (.bool true) ∧ Below w.heap.size w w' := by
  obtain ⟨i0, hi, hz0, hz1, hz2⟩ := info_parts Yba.info5
  have ew : awid 0 1 = 4 := by decide
  obtain ⟨h00, h01⟩ := h0
  have hb : ¬ (1024 : Int) < (n : Int) := by omega
  go_enter Yba.func4, Yba.ntmps4
  go_wp2_with (at_make; refine wpList_make_own _ rfl _ _ 22 rfl w.heap.size 5 i0 (.int .u8 0) 1 Yba.underlying22 hi hz0 hz1 _ _ _ (2 + n) rfl rfl (by omega) ?b2 ?b3 (Nat.le_refl _) ?_)
  case b2 => first | omega | (rw [hz2]; omega)
  case b3 => unfold maxLen; omega
  intro w0 hown0 hgrow0
  have B0 : Below w.heap.size w w0 := (Below.refl _ _).grown hgrow0 (Nat.le_refl _) (fun k h => by cases h)
  clear hgrow0
  go_wp2_with (at_builtin; refine wpList_append_fits _ rfl (.tmp 29) (.tmp 32) 22 rfl w.heap.size 5 i0 1 Yba.underlying22 hi hz1 w.heap.size 0 (2 + n) _ rfl (hown0.alloc _) ⟨w0.heap.size, 0, none⟩ 2 2 [.int .u8 0, .int .u8 1] rfl rfl ?c1 ?c2 (by omega) ?_)
  case c1 =>
    intro j u hj
    match j, hj with
    | 0, hj => simp at hj; subst hj; simp [Addr.add]
    | 1, hj => simp at hj; subst hj; simp [Addr.add]
  case c2 => intro u hu; simp at hu; rcases hu with rfl | rfl <;> rfl
  intro w1 hown1 hgrow1
  have B1 : Below w.heap.size w w1 := (B0.alloc B0.size _).grown hgrow1 (by simp; have := B0.size; omega) (fun k hk => by cases hk; exact Nat.le_refl _)
  clear hgrow1 hown0 B0
  go_wp2_with (at_builtin; refine wpList_append_fits_any _ rfl (.tmp 34) (.tmp 35) 22 rfl w.heap.size 5 i0 1 Yba.underlying22 hi hz1 w.heap.size 2 (2 + n) _ rfl hown1 a2 n cap (T.map (Value.int .u8)) rfl (by simp [hT]) hnone (fun ad h j u hu => (B1.cell (block_lt_of_cell (hcell ad h j u hu))).trans (hcell ad h j u hu)) (ints_oneCell _ _) (by omega) ?_)
  intro w2 hown2 hgrow2
  have B2 : Below w.heap.size w w2 := B1.grown hgrow2 B1.size (fun k hk => by cases hk; exact Nat.le_refl _)
  have k0 : w2.cell? ⟨w.heap.size, 0, none⟩ = some (.int .u8 0) := by rw [hown2.cellAt 0 (by omega)]; rfl
  have k1 : w2.cell? ⟨w.heap.size, 0 + 1, none⟩ = some (.int .u8 1) := by rw [Nat.zero_add, hown2.cellAt 1 (by omega)]; rfl
  have hsz : w.heap.size < w2.heap.size := block_lt_of_cell k0
  clear hgrow2 hown1 hown2 B1 hcell hnone hT hi hz0 hz1 hz2
  go_wp2_with fail
  refine (aw_long w.heap.size 0 (2 + n) (2 + n) 0 1 _ (by omega) (Nat.le_refl _) hsz (by omega) (by omega) k0 k1).mono ?_
  rw [ew]
  rintro e w3 ⟨rfl, B3⟩
  have B3' := B2.trans (B3.mono B2.size)
  clear B3 k0 k1 B2 hsz ew
  go_wp2_with fail
  refine (aw_short _ _ _ _ (by omega)).mono ?_
  rintro e w4 ⟨rfl, B4⟩
  have B4' := B3'.trans (B4.mono B3'.size)
  clear B4 B3'
  go_wp2_with fail
  refine (aw_short _ _ _ _ (by omega)).mono ?_
  rintro e w5 ⟨rfl, B5⟩
  have B5' := B4'.trans (B5.mono B4'.size)
  clear B5 B4'
  go_wp2
  go_ret
  exact ⟨rfl, B5'⟩

set_option maxHeartbeats 1000000 in
theorem built_1 (a0 a1 : Int) (a2 : Option Addr) (n cap : Nat) (T : List Int) (w : World) (h0 : 0 ≤ a0 ∧ a0 ≤ 255) (h1 : 0 ≤ a1 ∧ a1 ≤ 255) (hn : n ≤ 1024) (hT : T.length = n) (hnone : a2 = none → n = 0 ∧ cap = 0)
    (hcell : ∀ ad, a2 = some ad → ∀ j u, (T.map (Value.int .u8))[j]? = some u → w.cell? (ad.add j) = some u) (hm : a0 % 4 = 1) :
    Calls Yba.prog 4 #[.int .u8 a0, .int .u8 a1, .slice a2 n cap] w fun e w' => e = .returned (.bool true) ∧ Below w.heap.size w w' := by
  obtain ⟨i0, hi, hz0, hz1, hz2⟩ := info_parts Yba.info5
  have ew : awid 0 2 = 16 := by decide
  obtain ⟨h00, h01⟩ := h0
  have hb : ¬ (1024 : Int) < (n : Int) := by omega
  go_enter Yba.func4, Yba.ntmps4
  go_wp2_with (at_make; refine wpList_make_own _ rfl _ _ 22 rfl w.heap.size 5 i0 (.int .u8 0) 1 Yba.underlying22 hi hz0 hz1 _ _ _ (2 + n) rfl rfl (by omega) ?b2 ?b3 (Nat.le_refl _) ?_)
  case b2 => first | omega | (rw [hz2]; omega)
  case b3 => unfold maxLen; omega
  intro w0 hown0 hgrow0
  have B0 : Below w.heap.size w w0 := (Below.refl _ _).grown hgrow0 (Nat.le_refl _) (fun k h => by cases h)
  clear hgrow0
  go_wp2_with (at_builtin; refine wpList_append_fits _ rfl (.tmp 29) (.tmp 32) 22 rfl w.heap.size 5 i0 1 Yba.underlying22 hi hz1 w.heap.size 0 (2 + n) _ rfl (hown0.alloc _) ⟨w0.heap.size, 0, none⟩ 2 2 [.int .u8 0, .int .u8 2] rfl rfl ?c1 ?c2 (by omega) ?_)
  case c1 =>
    intro j u hj
    match j, hj with
    | 0, hj => simp at hj; subst hj; simp [Addr.add]
    | 1, hj => simp at hj; subst hj; simp [Addr.add]
  case c2 => intro u hu; simp at hu; rcases hu with rfl | rfl <;> rfl
  intro w1 hown1 hgrow1
  have B1 : Below w.heap.size w w1 := (B0.alloc B0.size _).grown hgrow1 (by simp; have := B0.size; omega) (fun k hk => by cases hk; exact Nat.le_refl _)
  clear hgrow1 hown0 B0
  go_wp2_with (at_builtin; refine wpList_append_fits_any _ rfl (.tmp 34) (.tmp 35) 22 rfl w.heap.size 5 i0 1 Yba.underlying22 hi hz1 w.heap.size 2 (2 + n) _ rfl hown1 a2 n cap (T.map (Value.int .u8)) rfl (by simp [hT]) hnone (fun ad h j u hu => (B1.cell (block_lt_of_cell (hcell ad h j u hu))).trans (hcell ad h j u hu)) (ints_oneCell _ _) (by omega) ?_)
  intro w2 hown2 hgrow2
  have B2 : Below w.heap.size w w2 := B1.grown hgrow2 B1.size (fun k hk => by cases hk; exact Nat.le_refl _)
  have k0 : w2.cell? ⟨w.heap.size, 0, none⟩ = some (.int .u8 0) := by rw [hown2.cellAt 0 (by omega)]; rfl
  have k1 : w2.cell? ⟨w.heap.size, 0 + 1, none⟩ = some (.int .u8 2) := by rw [Nat.zero_add, hown2.cellAt 1 (by omega)]; rfl
  have hsz : w.heap.size < w2.heap.size := block_lt_of_cell k0
  clear hgrow2 hown1 hown2 B1 hcell hnone hT hi hz0 hz1 hz2
  go_wp2_with fail
  refine (aw_long w.heap.size 0 (2 + n) (2 + n) 0 2 _ (by omega) (Nat.le_refl _) hsz (by omega) (by omega) k0 k1).mono ?_
  rw [ew]
  rintro e w3 ⟨rfl, B3⟩
  have B3' := B2.trans (B3.mono B2.size)
  clear B3 k0 k1 B2 hsz ew
  go_wp2_with fail
  refine (aw_short _ _ _ _ (by omega)).mono ?_
  rintro e w4 ⟨rfl, B4⟩
  have B4' := B3'.trans (B4.mono B3'.size)
  clear B4 B3'
  go_wp2_with fail
  refine (aw_short _ _ _ _ (by omega)).mono ?_
  rintro e w5 ⟨rfl, B5⟩
  have B5' := B4'.trans (B5.mono B4'.size)
  clear B5 B4'
  go_wp2
  go_ret
  exact ⟨rfl, B5'⟩

set_option maxHeartbeats 1000000 in
theorem built_2a (a0 a1 : Int) (a2 : Option Addr) (n cap : Nat) (T : List Int) (w : World) (h0 : 0 ≤ a0 ∧ a0 ≤ 255) (h1 : 0 ≤ a1 ∧ a1 ≤ 255) (hn : n ≤ 1024) (hT : T.length = n) (hnone : a2 = none → n = 0 ∧ cap = 0)
    (hcell : ∀ ad, a2 = some ad → ∀ j u, (T.map (Value.int .u8))[j]? = some u → w.cell? (ad.add j) = some u) (hm : a0 % 4 = 2) (hs : a1 = 1) :
    Calls Yba.prog 4 #[.int .u8 a0, .int .u8 a1, .slice a2 n cap] w fun e w' => e = .returned (.bool true) ∧ Below w.heap.size w w' := by
  subst hs
  obtain ⟨i0, hi, hz0, hz1, hz2⟩ := info_parts Yba.info5
  have ew : awid 0 1 = 4 := by decide
  obtain ⟨h00, h01⟩ := h0
  have hb : ¬ (1024 : Int) < (n : Int) := by omega
  go_enter Yba.func4, Yba.ntmps4
  go_wp2_with (at_make; refine wpList_make_own _ rfl _ _ 22 rfl w.heap.size 5 i0 (.int .u8 0) 1 Yba.underlying22 hi hz0 hz1 _ _ _ (2 + n) rfl rfl (by omega) ?b2 ?b3 (Nat.le_refl _) ?_)
  case b2 => first | omega | (rw [hz2]; omega)
  case b3 => unfold maxLen; omega
  intro w0 hown0 hgrow0
  have B0 : Below w.heap.size w w0 := (Below.refl _ _).grown hgrow0 (Nat.le_refl _) (fun k h => by cases h)
  clear hgrow0
  go_wp2_with (at_builtin; refine wpList_append_fits _ rfl (.tmp 29) (.tmp 32) 22 rfl w.heap.size 5 i0 1 Yba.underlying22 hi hz1 w.heap.size 0 (2 + n) _ rfl (hown0.alloc _) ⟨w0.heap.size, 0, none⟩ 2 2 [.int .u8 0, .int .u8 1] rfl rfl ?c1 ?c2 (by omega) ?_)
  case c1 =>
    intro j u hj
    match j, hj with
    | 0, hj => simp at hj; subst hj; simp [Addr.add]
    | 1, hj => simp at hj; subst hj; simp [Addr.add]
  case c2 => intro u hu; simp at hu; rcases hu with rfl | rfl <;> rfl
  intro w1 hown1 hgrow1
  have B1 : Below w.heap.size w w1 := (B0.alloc B0.size _).grown hgrow1 (by simp; have := B0.size; omega) (fun k hk => by cases hk; exact Nat.le_refl _)
  clear hgrow1 hown0 B0
  go_wp2_with (at_builtin; refine wpList_append_fits_any _ rfl (.tmp 34) (.tmp 35) 22 rfl w.heap.size 5 i0 1 Yba.underlying22 hi hz1 w.heap.size 2 (2 + n) _ rfl hown1 a2 n cap (T.map (Value.int .u8)) rfl (by simp [hT]) hnone (fun ad h j u hu => (B1.cell (block_lt_of_cell (hcell ad h j u hu))).trans (hcell ad h j u hu)) (ints_oneCell _ _) (by omega) ?_)
  intro w2 hown2 hgrow2
  have B2 : Below w.heap.size w w2 := B1.grown hgrow2 B1.size (fun k hk => by cases hk; exact Nat.le_refl _)
  have k0 : w2.cell? ⟨w.heap.size, 0, none⟩ = some (.int .u8 0) := by rw [hown2.cellAt 0 (by omega)]; rfl
  have k1 : w2.cell? ⟨w.heap.size, 0 + 1, none⟩ = some (.int .u8 1) := by rw [Nat.zero_add, hown2.cellAt 1 (by omega)]; rfl
  have hsz : w.heap.size < w2.heap.size := block_lt_of_cell k0
  clear hgrow2 hown1 hown2 B1 hcell hnone hT hi hz0 hz1 hz2
  go_wp2_with fail
  refine (aw_long w.heap.size 0 (2 + n) (2 + n) 0 1 _ (by omega) (Nat.le_refl _) hsz (by omega) (by omega) k0 k1).mono ?_
  rw [ew]
  rintro e w3 ⟨rfl, B3⟩
  have B3' := B2.trans (B3.mono B2.size)
  clear B3 k0 k1 B2 hsz ew
  go_wp2_with fail
  refine (aw_short _ _ _ _ (by omega)).mono ?_
  rintro e w4 ⟨rfl, B4⟩
  have B4' := B3'.trans (B4.mono B3'.size)
  clear B4 B3'
  go_wp2_with fail
  refine (aw_short _ _ _ _ (by omega)).mono ?_
  rintro e w5 ⟨rfl, B5⟩
  have B5' := B4'.trans (B5.mono B4'.size)
  clear B5 B4'
  go_wp2
  go_ret
  exact ⟨rfl, B5'⟩

set_option maxHeartbeats 1000000 in
theorem built_2b (a0 a1 : Int) (a2 : Option Addr) (n cap : Nat) (T : List Int) (w : World) (h0 : 0 ≤ a0 ∧ a0 ≤ 255) (h1 : 0 ≤ a1 ∧ a1 ≤ 255) (hn : n ≤ 1024) (hT : T.length = n) (hnone : a2 = none → n = 0 ∧ cap = 0)
    (hcell : ∀ ad, a2 = some ad → ∀ j u, (T.map (Value.int .u8))[j]? = some u → w.cell? (ad.add j) = some u) (hm : a0 % 4 = 2) (hs : a1 = 2) :
    Calls Yba.prog 4 #[.int .u8 a0, .int .u8 a1, .slice a2 n cap] w fun e w' => e = .returned (.bool true) ∧ Below w.heap.size w w' := by
  subst hs
  obtain ⟨i0, hi, hz0, hz1, hz2⟩ := info_parts Yba.info5
  have ew : awid 0 2 = 16 := by decide
  obtain ⟨h00, h01⟩ := h0
  have hb : ¬ (1024 : Int) < (n : Int) := by omega
  go_enter Yba.func4, Yba.ntmps4
  go_wp2_with (at_make; refine wpList_make_own _ rfl _ _ 22 rfl w.heap.size 5 i0 (.int .u8 0) 1 Yba.underlying22 hi hz0 hz1 _ _ _ (2 + n) rfl rfl (by omega) ?b2 ?b3 (Nat.le_refl _) ?_)
  case b2 => first | omega | (rw [hz2]; omega)
  case b3 => unfold maxLen; omega
  intro w0 hown0 hgrow0
  have B0 : Below w.heap.size w w0 := (Below.refl _ _).grown hgrow0 (Nat.le_refl _) (fun k h => by cases h)
  clear hgrow0
  go_wp2_with (at_builtin; refine wpList_append_fits _ rfl (.tmp 29) (.tmp 32) 22 rfl w.heap.size 5 i0 1 Yba.underlying22 hi hz1 w.heap.size 0 (2 + n) _ rfl (hown0.alloc _) ⟨w0.heap.size, 0, none⟩ 2 2 [.int .u8 0, .int .u8 2] rfl rfl ?c1 ?c2 (by omega) ?_)
  case c1 =>
    intro j u hj
    match j, hj with
    | 0, hj => simp at hj; subst hj; simp [Addr.add]
    | 1, hj => simp at hj; subst hj; simp [Addr.add]
  case c2 => intro u hu; simp at hu; rcases hu with rfl | rfl <;> rfl
  intro w1 hown1 hgrow1
  have B1 : Below w.heap.size w w1 := (B0.alloc B0.size _).grown hgrow1 (by simp; have := B0.size; omega) (fun k hk => by cases hk; exact Nat.le_refl _)
  clear hgrow1 hown0 B0
  go_wp2_with (at_builtin; refine wpList_append_fits_any _ rfl (.tmp 34) (.tmp 35) 22 rfl w.heap.size 5 i0 1 Yba.underlying22 hi hz1 w.heap.size 2 (2 + n) _ rfl hown1 a2 n cap (T.map (Value.int .u8)) rfl (by simp [hT]) hnone (fun ad h j u hu => (B1.cell (block_lt_of_cell (hcell ad h j u hu))).trans (hcell ad h j u hu)) (ints_oneCell _ _) (by omega) ?_)
  intro w2 hown2 hgrow2
  have B2 : Below w.heap.size w w2 := B1.grown hgrow2 B1.size (fun k hk => by cases hk; exact Nat.le_refl _)
  have k0 : w2.cell? ⟨w.heap.size, 0, none⟩ = some (.int .u8 0) := by rw [hown2.cellAt 0 (by omega)]; rfl
  have k1 : w2.cell? ⟨w.heap.size, 0 + 1, none⟩ = some (.int .u8 2) := by rw [Nat.zero_add, hown2.cellAt 1 (by omega)]; rfl
  have hsz : w.heap.size < w2.heap.size := block_lt_of_cell k0
  clear hgrow2 hown1 hown2 B1 hcell hnone hT hi hz0 hz1 hz2
  go_wp2_with fail
  refine (aw_long w.heap.size 0 (2 + n) (2 + n) 0 2 _ (by omega) (Nat.le_refl _) hsz (by omega) (by omega) k0 k1).mono ?_
  rw [ew]
  rintro e w3 ⟨rfl, B3⟩
  have B3' := B2.trans (B3.mono B2.size)
  clear B3 k0 k1 B2 hsz ew
  go_wp2_with fail
  refine (aw_short _ _ _ _ (by omega)).mono ?_
  rintro e w4 ⟨rfl, B4⟩
  have B4' := B3'.trans (B4.mono B3'.size)
  clear B4 B3'
  go_wp2_with fail
  refine (aw_short _ _ _ _ (by omega)).mono ?_
  rintro e w5 ⟨rfl, B5⟩
  have B5' := B4'.trans (B5.mono B4'.size)
  clear B5 B4'
  go_wp2
  go_ret
  exact ⟨rfl, B5'⟩

set_option maxHeartbeats 1000000 in
theorem built_2c (a0 a1 : Int) (a2 : Option Addr) (n cap : Nat) (T : List Int) (w : World) (h0 : 0 ≤ a0 ∧ a0 ≤ 255) (h1 : 0 ≤ a1 ∧ a1 ≤ 255) (hn : n ≤ 1024) (hT : T.length = n) (hnone : a2 = none → n = 0 ∧ cap = 0)
    (hcell : ∀ ad, a2 = some ad → ∀ j u, (T.map (Value.int .u8))[j]? = some u → w.cell? (ad.add j) = some u) (hm : a0 % 4 = 2) (hs1 : (a1 == 1) = false) (hs2 : (a1 == 2) = false) :
    Calls Yba.prog 4 #[.int .u8 a0, .int .u8 a1, .slice a2 n cap] w fun e w' => e = .returned (.bool true) ∧ Below w.heap.size w w' := by
  obtain ⟨i0, hi, hz0, hz1, hz2⟩ := info_parts Yba.info5
  have ew : awid 0 a1 = 0 := by unfold awid; simp only [beq_eq_false_iff_ne] at hs1 hs2; rw [if_neg (by omega), if_neg (by omega)]
  obtain ⟨h00, h01⟩ := h0
  have hb : ¬ (1024 : Int) < (n : Int) := by omega
  go_enter Yba.func4, Yba.ntmps4
  go_wp2_with (at_make; refine wpList_make_own _ rfl _ _ 22 rfl w.heap.size 5 i0 (.int .u8 0) 1 Yba.underlying22 hi hz0 hz1 _ _ _ (2 + n) rfl rfl (by omega) ?b2 ?b3 (Nat.le_refl _) ?_)
  case b2 => first | omega | (rw [hz2]; omega)
  case b3 => unfold maxLen; omega
  intro w0 hown0 hgrow0
  have B0 : Below w.heap.size w w0 := (Below.refl _ _).grown hgrow0 (Nat.le_refl _) (fun k h => by cases h)
  clear hgrow0
  go_wp2_with (at_builtin; refine wpList_append_fits _ rfl (.tmp 29) (.tmp 32) 22 rfl w.heap.size 5 i0 1 Yba.underlying22 hi hz1 w.heap.size 0 (2 + n) _ rfl (hown0.alloc _) ⟨w0.heap.size, 0, none⟩ 2 2 [.int .u8 0, .int .u8 a1] rfl rfl ?c1 ?c2 (by omega) ?_)
  case c1 =>
    intro j u hj
    match j, hj with
    | 0, hj => simp at hj; subst hj; simp [Addr.add]
    | 1, hj => simp at hj; subst hj; simp [Addr.add]
  case c2 => intro u hu; simp at hu; rcases hu with rfl | rfl <;> rfl
  intro w1 hown1 hgrow1
  have B1 : Below w.heap.size w w1 := (B0.alloc B0.size _).grown hgrow1 (by simp; have := B0.size; omega) (fun k hk => by cases hk; exact Nat.le_refl _)
  clear hgrow1 hown0 B0
  go_wp2_with (at_builtin; refine wpList_append_fits_any _ rfl (.tmp 34) (.tmp 35) 22 rfl w.heap.size 5 i0 1 Yba.underlying22 hi hz1 w.heap.size 2 (2 + n) _ rfl hown1 a2 n cap (T.map (Value.int .u8)) rfl (by simp [hT]) hnone (fun ad h j u hu => (B1.cell (block_lt_of_cell (hcell ad h j u hu))).trans (hcell ad h j u hu)) (ints_oneCell _ _) (by omega) ?_)
  intro w2 hown2 hgrow2
  have B2 : Below w.heap.size w w2 := B1.grown hgrow2 B1.size (fun k hk => by cases hk; exact Nat.le_refl _)
  have k0 : w2.cell? ⟨w.heap.size, 0, none⟩ = some (.int .u8 0) := by rw [hown2.cellAt 0 (by omega)]; rfl
  have k1 : w2.cell? ⟨w.heap.size, 0 + 1, none⟩ = some (.int .u8 a1) := by rw [Nat.zero_add, hown2.cellAt 1 (by omega)]; rfl
  have hsz : w.heap.size < w2.heap.size := block_lt_of_cell k0
  clear hgrow2 hown1 hown2 B1 hcell hnone hT hi hz0 hz1 hz2
  go_wp2_with fail
  refine (aw_long w.heap.size 0 (2 + n) (2 + n) 0 a1 _ (by omega) (Nat.le_refl _) hsz (by omega) h1 k0 k1).mono ?_
  rw [ew]
  rintro e w3 ⟨rfl, B3⟩
  have B3' := B2.trans (B3.mono B2.size)
  clear B3 k0 k1 B2 hsz ew
  go_wp2_with fail
  refine (aw_short _ _ _ _ (by omega)).mono ?_
  rintro e w4 ⟨rfl, B4⟩
  have B4' := B3'.trans (B4.mono B3'.size)
  clear B4 B3'
  go_wp2_with fail
  refine (aw_short _ _ _ _ (by omega)).mono ?_
  rintro e w5 ⟨rfl, B5⟩
  have B5' := B4'.trans (B5.mono B4'.size)
  clear B5 B4'
  go_wp2
  go_ret
  exact ⟨rfl, B5'⟩

set_option maxHeartbeats 1000000 in
theorem built_3 (a0 a1 : Int) (a2 : Option Addr) (n cap : Nat) (T : List Int) (w : World) (h0 : 0 ≤ a0 ∧ a0 ≤ 255) (h1 : 0 ≤ a1 ∧ a1 ≤ 255) (hn : n ≤ 1024) (hT : T.length = n) (hnone : a2 = none → n = 0 ∧ cap = 0)
    (hcell : ∀ ad, a2 = some ad → ∀ j u, (T.map (Value.int .u8))[j]? = some u → w.cell? (ad.add j) = some u) (hm : a0 % 4 = 3) (hz : (a0 == 0) = false) :
    Calls Yba.prog 4 #[.int .u8 a0, .int .u8 a1, .slice a2 n cap] w fun e w' => e = .returned (.bool true) ∧ Below w.heap.size w w' := by
  obtain ⟨i0, hi, hz0, hz1, hz2⟩ := info_parts Yba.info5
  have ew : awid a0 a1 = 0 := by unfold awid; simp only [beq_eq_false_iff_ne] at hz; rw [if_neg (by omega), if_neg (by omega)]
  obtain ⟨h00, h01⟩ := h0
  have hb : ¬ (1024 : Int) < (n : Int) := by omega
  go_enter Yba.func4, Yba.ntmps4
  go_wp2_with (at_make; refine wpList_make_own _ rfl _ _ 22 rfl w.heap.size 5 i0 (.int .u8 0) 1 Yba.underlying22 hi hz0 hz1 _ _ _ (2 + n) rfl rfl (by omega) ?b2 ?b3 (Nat.le_refl _) ?_)
  case b2 => first | omega | (rw [hz2]; omega)
  case b3 => unfold maxLen; omega
  intro w0 hown0 hgrow0
  have B0 : Below w.heap.size w w0 := (Below.refl _ _).grown hgrow0 (Nat.le_refl _) (fun k h => by cases h)
  clear hgrow0
  go_wp2_with (at_builtin; refine wpList_append_fits _ rfl (.tmp 29) (.tmp 32) 22 rfl w.heap.size 5 i0 1 Yba.underlying22 hi hz1 w.heap.size 0 (2 + n) _ rfl (hown0.alloc _) ⟨w0.heap.size, 0, none⟩ 2 2 [.int .u8 a0, .int .u8 a1] rfl rfl ?c1 ?c2 (by omega) ?_)
  case c1 =>
    intro j u hj
    match j, hj with
    | 0, hj => simp at hj; subst hj; simp [Addr.add]
    | 1, hj => simp at hj; subst hj; simp [Addr.add]
  case c2 => intro u hu; simp at hu; rcases hu with rfl | rfl <;> rfl
  intro w1 hown1 hgrow1
  have B1 : Below w.heap.size w w1 := (B0.alloc B0.size _).grown hgrow1 (by simp; have := B0.size; omega) (fun k hk => by cases hk; exact Nat.le_refl _)
  clear hgrow1 hown0 B0
  go_wp2_with (at_builtin; refine wpList_append_fits_any _ rfl (.tmp 34) (.tmp 35) 22 rfl w.heap.size 5 i0 1 Yba.underlying22 hi hz1 w.heap.size 2 (2 + n) _ rfl hown1 a2 n cap (T.map (Value.int .u8)) rfl (by simp [hT]) hnone (fun ad h j u hu => (B1.cell (block_lt_of_cell (hcell ad h j u hu))).trans (hcell ad h j u hu)) (ints_oneCell _ _) (by omega) ?_)
  intro w2 hown2 hgrow2
  have B2 : Below w.heap.size w w2 := B1.grown hgrow2 B1.size (fun k hk => by cases hk; exact Nat.le_refl _)
  have k0 : w2.cell? ⟨w.heap.size, 0, none⟩ = some (.int .u8 a0) := by rw [hown2.cellAt 0 (by omega)]; rfl
  have k1 : w2.cell? ⟨w.heap.size, 0 + 1, none⟩ = some (.int .u8 a1) := by rw [Nat.zero_add, hown2.cellAt 1 (by omega)]; rfl
  have hsz : w.heap.size < w2.heap.size := block_lt_of_cell k0
  clear hgrow2 hown1 hown2 B1 hcell hnone hT hi hz0 hz1 hz2
  go_wp2_with fail
  refine (aw_long w.heap.size 0 (2 + n) (2 + n) a0 a1 _ (by omega) (Nat.le_refl _) hsz ⟨h00, h01⟩ h1 k0 k1).mono ?_
  rw [ew]
  rintro e w3 ⟨rfl, B3⟩
  have B3' := B2.trans (B3.mono B2.size)
  clear B3 k0 k1 B2 hsz ew
  go_wp2_with fail
  refine (aw_short _ _ _ _ (by omega)).mono ?_
  rintro e w4 ⟨rfl, B4⟩
  have B4' := B3'.trans (B4.mono B3'.size)
  clear B4 B3'
  go_wp2_with fail
  refine (aw_short _ _ _ _ (by omega)).mono ?_
  rintro e w5 ⟨rfl, B5⟩
  have B5' := B4'.trans (B5.mono B4'.size)
  clear B5 B4'
  go_wp2
  go_ret
  exact ⟨rfl, B5'⟩

end Go.Proofs.Ybulkolg
