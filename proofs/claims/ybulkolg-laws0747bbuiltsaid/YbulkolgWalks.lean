/-
  THE CONTRACTS SHARED BY BOTH STATEMENTS OF SEAT b0747a: bytes.Equal (8), bytes.HasPrefix (7) at a prefix of two bytes, peers.addressWidth (5).
-/
import Derived.Test.YbulkolgRows
import Derived.WalkKit
import Derived.WalkSpells
import Derived.Below
import Derived.Laws.BytesArg
import Derived.Lib.Bytes
namespace Go.Proofs.Ybulkolg
open Go.RowKit

/-- bytes.Equal, its two arguments by what 'string(..)' of them gives. -/
theorem eq_any (v1 v2 : Value) (xs ys : List Int) (w : World)
    (h1 : (convert 22 9 v1).run Yba.prog w = .ok (.string (strOfNums xs)) w) (h2 : (convert 22 9 v2).run Yba.prog w = .ok (.string (strOfNums ys)) w) :
    Calls Yba.prog 8 #[v1, v2] w fun e w' => e = .returned (.bool (Lib.bytesOf xs == Lib.bytesOf ys)) ∧ w' = w := by
  rw [← Lib.strOfNums_toList, ← Lib.strOfNums_toList]
  go_enter Yba.func8, Yba.ntmps8
  go_wp2
  go_ret
  exact ⟨rfl, rfl⟩

/-- bytes.HasPrefix at fewer than two bytes: false. -/
theorem hp_short (a p2 : Option Addr) (n c d : Nat) (w : World) (hn : n < 2) :
    Calls Yba.prog 7 #[.slice a n c, .slice p2 2 d] w fun e w' => e = .returned (.bool false) ∧ w' = w := by
  have h : ¬ (2 : Int) ≤ (n : Int) := by omega
  go_enter Yba.func7, Yba.ntmps7
  go_wp2
  go_ret
  exact ⟨rfl, rfl⟩

/-- Two bytes are two bytes. -/
theorem two_bytes (x0 x1 y0 y1 : Int) (a0 : 0 ≤ x0 ∧ x0 ≤ 255) (a1 : 0 ≤ x1 ∧ x1 ≤ 255) (b0 : 0 ≤ y0 ∧ y0 ≤ 255) (b1 : 0 ≤ y1 ∧ y1 ≤ 255) :
    (Lib.bytesOf [x0, x1] == Lib.bytesOf [y0, y1]) = decide (x0 = y0 ∧ x1 = y1) := by
  have one : ∀ x y : Int, 0 ≤ x ∧ x ≤ 255 → 0 ≤ y ∧ y ≤ 255 → (UInt8.ofNat x.toNat = UInt8.ofNat y.toNat ↔ x = y) := by
    intro x y hx hy
    constructor
    · intro h
      have h2 := congrArg UInt8.toNat h
      simp only [UInt8.toNat_ofNat'] at h2
      omega
    · rintro rfl; rfl
  rw [Bool.eq_iff_iff]
  simp [Lib.bytesOf, one x0 y0 a0 b0, one x1 y1 a1 b1]

/-- bytes.HasPrefix at two bytes or more, the prefix two bytes. -/
theorem hp_long (b off n c b2 : Nat) (x0 x1 y0 y1 : Int) (w : World) (hn : 2 ≤ n) (hc : n ≤ c)
    (c0 : w.cell? ⟨b, off, none⟩ = some (.int .u8 x0)) (c1 : w.cell? ⟨b, off + 1, none⟩ = some (.int .u8 x1))
    (d0 : w.cell? ⟨b2, 0, none⟩ = some (.int .u8 y0)) (d1 : w.cell? ⟨b2, 1, none⟩ = some (.int .u8 y1)) :
    Calls Yba.prog 7 #[.slice (some ⟨b, off, none⟩) n c, .slice (some ⟨b2, 0, none⟩) 2 2] w fun e w' => e = .returned (.bool (Lib.bytesOf [x0, x1] == Lib.bytesOf [y0, y1])) ∧ w' = w := by
  have g2 := run_convert_bytes_arg (P := Yba.prog) w 22 5 Yba.underlying22 Yba.underlying5 b2 0 2 2 [y0, y1] rfl (by
    intro i hi
    match i, hi with
    | 0, _ => simpa using d0
    | 1, _ => simpa using d1) 9 Yba.underlying9
  have g1 := run_convert_bytes_arg (P := Yba.prog) w 22 5 Yba.underlying22 Yba.underlying5 b off 2 c [x0, x1] rfl (by
    intro i hi
    match i, hi with
    | 0, _ => simpa using c0
    | 1, _ => simpa using c1) 9 Yba.underlying9
  have h : (2 : Int) ≤ (n : Int) := by omega
  go_enter Yba.func7, Yba.ntmps7
  go_wp2_with (go_at_call 8; refine (eq_any _ _ [x0, x1] [y0, y1] _ g1 g2).mono ?_; rintro e w' ⟨rfl, rfl⟩)
  go_ret
  exact ⟨rfl, rfl⟩

/-- The width that the first two octets name. -/
def awid (x0 x1 : Int) : Int := if x0 = 0 ∧ x1 = 1 then 4 else if x0 = 0 ∧ x1 = 2 then 16 else 0

/-- peers.addressWidth at fewer than two octets: 0. -/
theorem aw_short (a : Option Addr) (n c : Nat) (w : World) (hn : n < 2) :
    Calls Yba.prog 5 #[.slice a n c] w fun e w' => e = .returned (.int .i64 0) ∧ Below w.heap.size w w' := by
  go_enter Yba.func5, Yba.ntmps5
  go_wp2_with (go_at_call 7; refine (hp_short _ _ _ _ _ _ hn).mono ?_; rintro e w' ⟨rfl, rfl⟩)
  go_ret
  exact ⟨rfl, ((Below.refl _ _).alloc (Nat.le_refl _) _).alloc (by simp) _⟩

set_option maxHeartbeats 400000 in
/-- peers.addressWidth at two octets or more. -/
theorem aw_long (b off n c : Nat) (x0 x1 : Int) (w : World) (hn : 2 ≤ n) (hc : n ≤ c) (hb : b < w.heap.size) (a0 : 0 ≤ x0 ∧ x0 ≤ 255) (a1 : 0 ≤ x1 ∧ x1 ≤ 255)
    (c0 : w.cell? ⟨b, off, none⟩ = some (.int .u8 x0)) (c1 : w.cell? ⟨b, off + 1, none⟩ = some (.int .u8 x1)) :
    Calls Yba.prog 5 #[.slice (some ⟨b, off, none⟩) n c] w fun e w' => e = .returned (.int .i64 (awid x0 x1)) ∧ Below w.heap.size w w' := by
  have e1 := two_bytes x0 x1 0 1 a0 a1 (by omega) (by omega)
  have e2 := two_bytes x0 x1 0 2 a0 a1 (by omega) (by omega)
  have k1 : ∀ o, (w.alloc o).cell? ⟨b, off, none⟩ = some (.int .u8 x0) ∧ (w.alloc o).cell? ⟨b, off + 1, none⟩ = some (.int .u8 x1) := fun o =>
    ⟨(((Below.refl _ w).alloc (Nat.le_refl _) o).cell (p := ⟨b, off, none⟩) hb).trans c0, (((Below.refl _ w).alloc (Nat.le_refl _) o).cell (p := ⟨b, off + 1, none⟩) hb).trans c1⟩
  have k2 : ∀ o o', ((w.alloc o).alloc o').cell? ⟨b, off, none⟩ = some (.int .u8 x0) ∧ ((w.alloc o).alloc o').cell? ⟨b, off + 1, none⟩ = some (.int .u8 x1) := fun o o' =>
    ⟨((((Below.refl _ w).alloc (Nat.le_refl _) o).alloc (by simp) o').cell (p := ⟨b, off, none⟩) hb).trans c0, ((((Below.refl _ w).alloc (Nat.le_refl _) o).alloc (by simp) o').cell (p := ⟨b, off + 1, none⟩) hb).trans c1⟩
  by_cases h1 : x0 = 0 ∧ x1 = 1
  · have ew : awid x0 x1 = 4 := by unfold awid; rw [if_pos h1]
    have q1 : (Lib.bytesOf [x0, x1] == Lib.bytesOf [0, 1]) = true := by rw [e1]; simpa using h1
    rw [ew]
    clear e1 e2 ew h1 a0 a1
    go_enter Yba.func5, Yba.ntmps5
    go_wp2_with (go_at_call 7; refine (hp_long b off n c w.heap.size x0 x1 0 1 _ hn hc (k1 _).1 (k1 _).2 (by simp) (by simp)).mono ?_; rw [q1]; rintro e w' ⟨rfl, rfl⟩)
    go_ret
    exact ⟨rfl, (Below.refl _ _).alloc (Nat.le_refl _) _⟩
  · have q1 : (Lib.bytesOf [x0, x1] == Lib.bytesOf [0, 1]) = false := by rw [e1]; simpa using h1
    by_cases h2 : x0 = 0 ∧ x1 = 2
    · have ew : awid x0 x1 = 16 := by unfold awid; rw [if_neg h1, if_pos h2]
      have q2 : (Lib.bytesOf [x0, x1] == Lib.bytesOf [0, 2]) = true := by rw [e2]; simpa using h2
      rw [ew]
      clear e1 e2 ew h1 h2 a0 a1
      go_enter Yba.func5, Yba.ntmps5
      go_wp2_with fail
      refine (hp_long b off n c w.heap.size x0 x1 0 1 _ hn hc (k1 _).1 (k1 _).2 (by simp) (by simp)).mono ?_
      rw [q1]
      rintro e w' ⟨rfl, rfl⟩
      go_wp2_with fail
      refine (hp_long b off n c (w.heap.size + 1) x0 x1 0 2 _ hn hc (k2 _ _).1 (k2 _ _).2 (by simp) (by simp)).mono ?_
      rw [q2]
      rintro e w' ⟨rfl, rfl⟩
      go_wp2
      go_ret
      exact ⟨rfl, ((Below.refl _ _).alloc (Nat.le_refl _) _).alloc (by simp) _⟩
    · have ew : awid x0 x1 = 0 := by unfold awid; rw [if_neg h1, if_neg h2]
      have q2 : (Lib.bytesOf [x0, x1] == Lib.bytesOf [0, 2]) = false := by rw [e2]; simpa using h2
      rw [ew]
      clear e1 e2 ew h1 h2 a0 a1
      go_enter Yba.func5, Yba.ntmps5
      go_wp2_with fail
      refine (hp_long b off n c w.heap.size x0 x1 0 1 _ hn hc (k1 _).1 (k1 _).2 (by simp) (by simp)).mono ?_
      rw [q1]
      rintro e w' ⟨rfl, rfl⟩
      go_wp2_with fail
      refine (hp_long b off n c (w.heap.size + 1) x0 x1 0 2 _ hn hc (k2 _ _).1 (k2 _ _).2 (by simp) (by simp)).mono ?_
      rw [q2]
      rintro e w' ⟨rfl, rfl⟩
      go_wp2
      go_ret
      exact ⟨rfl, ((Below.refl _ _).alloc (Nat.le_refl _) _).alloc (by simp) _⟩

/-- zzs0747bmodel at fewer than two octets: 0. -/
theorem md_short (a : Option Addr) (n c : Nat) (w : World) (hn : n < 2) :
    Calls Yba.prog 6 #[.slice a n c] w fun e w' => e = .returned (.int .i64 0) ∧ w' = w := by
  have h : (n : Int) < 2 := by omega
  go_enter Yba.func6, Yba.ntmps6
  go_wp2
  go_ret
  exact ⟨rfl, rfl⟩

set_option maxHeartbeats 400000 in
/-- zzs0747bmodel at two octets or more. -/
theorem md_long (b off n c : Nat) (x0 x1 : Int) (w : World) (hn : 2 ≤ n)
    (c0 : w.cell? ⟨b, off, none⟩ = some (.int .u8 x0)) (c1 : w.cell? ⟨b, off + 1, none⟩ = some (.int .u8 x1)) :
    Calls Yba.prog 6 #[.slice (some ⟨b, off, none⟩) n c] w fun e w' => e = .returned (.int .i64 (awid x0 x1)) ∧ w' = w := by
  have h : ¬ (n : Int) < 2 := by omega
  by_cases h0 : x0 = 0
  · subst h0
    by_cases h1 : x1 = 1
    · subst h1
      have ew : awid 0 1 = 4 := by decide
      rw [ew]; clear ew
      go_enter Yba.func6, Yba.ntmps6
      go_wp2
      go_ret
      exact ⟨rfl, rfl⟩
    · have q1 : (x1 == 1) = false := by simpa using h1
      by_cases h2 : x1 = 2
      · subst h2
        have ew : awid 0 2 = 16 := by decide
        rw [ew]; clear ew q1 h1
        go_enter Yba.func6, Yba.ntmps6
        go_wp2
        go_ret
        exact ⟨rfl, rfl⟩
      · have q2 : (x1 == 2) = false := by simpa using h2
        have ew : awid 0 x1 = 0 := by unfold awid; rw [if_neg (by omega), if_neg (by omega)]
        rw [ew]; clear ew h1 h2
        go_enter Yba.func6, Yba.ntmps6
        go_wp2
        go_ret
        exact ⟨rfl, rfl⟩
  · have q0 : (x0 != 0) = true := by simpa using h0
    have ew : awid x0 x1 = 0 := by unfold awid; rw [if_neg (by omega), if_neg (by omega)]
    rw [ew]; clear ew h0
    go_enter Yba.func6, Yba.ntmps6
    go_wp2
    go_ret
    exact ⟨rfl, rfl⟩

end Go.Proofs.Ybulkolg
