/-
  SEAT b0748aF, package runtimetest: the walk of 'LawS0748BCalls' (3).
-/
import Derived.Test.YbulkoluFmtB6
namespace Go.Proofs.YbulkoluFmt
open Go.RowKit Go.Extern.Stop Go.Stop Go.Extern

set_option maxRecDepth 100000 in
set_option maxHeartbeats 4000000 in
theorem law_calls (name peer frm s : ByteArray) (kind i : Int) (ao : Option Addr) (cap : Nat) (ts : List ByteArray) (w : World) (hk0 : 0 ≤ kind) (hk1 : kind ≤ 255) (hlen : ts.length ≤ 1024) (hnone : ao = none → ts.length = 0 ∧ cap = 0)
    (hcell : ∀ ad, ao = some ad → ∀ j u, (ts.map Value.string)[j]? = some u → w.cell? (ad.add j) = some u) :
    Calls Ybaf.prog 3 #[.string name, .string peer, .string frm, .int .u8 kind, .int .i64 i, .string s, .slice ao ts.length cap] w fun e w' => e = .returned (.bool true) ∧ Below w.heap.size w w' := by
  obtain ⟨i0, hi, hz0, hz1, hz2⟩ := info_parts Ybaf.info9
  have hb : ¬ (1024 : Int) < (ts.length : Int) := by omega
  have hmk := run_make_row' (P := Ybaf.prog) 22 9 (.string ByteArray.empty) 16 Ybaf.underlying22 Ybaf.info9 rfl .i64 .i64 ts.length (by omega) (by omega)
  have B0 : ∀ o, Below w.heap.size w (w.alloc o) := fun o => (Below.refl _ w).alloc (Nat.le_refl _) o
  go_enter Ybaf.func3, Ybaf.ntmps3
  go_upto_region 4 with fail
  go_wp2_with (refine wpList_copy_splice rfl (.tmp 32) (.tmp 33) 22 22 rfl 9 Ybaf.underlying22 (by kernel_rfl) _ _ ts.length ts.length ts.length cap rfl rfl w.heap.size 0 (madeCells #[.string ByteArray.empty] ts.length).toList 9 (heap_made _ _ _ _) (ts.map Value.string) (len_min ts) (copy_src hnone hcell) (copy_fit ts) (strs_one ts) w.heap.size w (B0 _) (Nat.le_refl _) ?_)
  intro w1 hO B1
  rw [splice_all _ _ (len_made ts)] at hO
  go_wp2_with (at_builtin; refine wpList_append_own_src _ rfl _ (.tmp 35) 22 rfl w1.heap.size 9 i0 (.string ByteArray.empty) 1 16 Ybaf.underlying22 hi hz0 hz1 hz2 rfl (by decide) (.slice none 0 0) 0 [] rfl (World.ownsRow_nil _ _ _ _) ao ts.length cap (ts.map Value.string) rfl hnone (len_one ts) (app_src hcell B1) (strs_one ts) (len_a0 hlen) (len_b0 hlen) (Nat.le_refl _) ?_)
  intro v' w2 hown hgrow
  obtain ⟨a2, cp2, hv⟩ : ∃ a2 cp2, v' = .slice a2 ts.length cp2 := by
    rcases Joins.ownsRow_forms hown with ⟨h1, h2⟩ | ⟨g, cp, h⟩
    · exact ⟨none, 0, by rw [h1, h2]⟩
    · exact ⟨_, _, h⟩
  subst hv
  have P0 := pre_start (name := name) (peer := peer) hlen hO B1 hown hgrow
  clear hmk B0 hO hown hgrow hcell hnone hi hz0 hz1 hz2
  go_upto_region 9 with fail
  go_cut [20] (fun gr wx => gr = .bool true ∧ Pre w wx w1.heap.size w2.heap.size (w2.heap.size + 1 + 1) (w2.heap.size + 1) name peer (.slice a2 ts.length cp2) ts)
  case first =>
    go_wp2_with fail
    go_meet
    exact ⟨rfl, P0⟩
  case rest =>
    clear P0
    obtain ⟨rfl, P1⟩ := hcut
    obtain ⟨W3, hW3⟩ : ∃ W3, W3 = wc := ⟨_, rfl⟩
    subst hW3
    obtain ⟨i1, ji, jz0, jz1, jz2⟩ := info_parts Ybaf.info34
    go_upto_block 0 with fail
    go_cut [18, 19, 20] (fun m wv gr wx => ∃ L gb wa wcp, Asks peer m L gb ∧ gr = .bool gb ∧ wv = .slice wa L.length wcp ∧ wx.ownsRow W3.heap.size 34 4 wv L.length (flat L) ∧ Below W3.heap.size W3 wx)
    case first =>
      have N0 := World.ownsRow_nil W3 W3.heap.size 34 4
      have BW3 : Below W3.heap.size W3 W3 := Below.refl _ _
      rcases (show kind % 6 = 0 ∨ kind % 6 = 1 ∨ kind % 6 = 2 ∨ kind % 6 = 3 ∨ kind % 6 = 4 ∨ kind % 6 = 5 from by omega) with h | h | h | h | h | h
      · have q0 : (kind % 6 == 0) = true := by simp [h]
        clear h
        by_cases h1 : (i == 1) = true
        · go_wp2_with (at_builtin; refine wpList_append_own _ rfl (.tmp 52) (.tmp 58) 27 rfl W3.heap.size 34 i1 (.agg #[.bool false, .string ByteArray.empty, .int .i64 0, .nilIface]) 4 48 Ybaf.underlying27 ji jz0 jz1 jz2 rfl (by decide) (.slice none 0 0) 0 [] rfl (N0.alloc _) ⟨W3.heap.size, 0, none⟩ 1 1 [.bool false, .string peer, .int .i64 0, .iface 32 (.agg #[.int .i64 i])] rfl rfl (four_new _ _ _ _ _ _) (four_one _ _ _ _ _) (by decide) (by decide) (base_le BW3) ?_)
          intro v4 w4 o4 g4 _
          have Bw4 := want_push BW3 N0 g4
          clear g4
          go_wp2_with (at_builtin; refine wpList_append_own _ rfl (.tmp 62) (.tmp 65) 27 rfl W3.heap.size 34 i1 (.agg #[.bool false, .string ByteArray.empty, .int .i64 0, .nilIface]) 4 48 Ybaf.underlying27 ji jz0 jz1 jz2 rfl (by decide) v4 1 _ rfl (o4.alloc _) ⟨w4.heap.size, 0, none⟩ 1 1 [.bool true, .string ByteArray.empty, .int .i64 1, .iface 9 (.string firstS)] rfl rfl (four_new _ _ _ _ _ _) (four_one _ _ _ _ _) (by decide) (by decide) (base_le Bw4) ?_)
          intro v5 w5 o5 g5 _
          have Bw5 := want_push Bw4 o4 g5
          clear g5
          go_wp2_with (at_builtin; refine wpList_append_own _ rfl (.tmp 67) (.tmp 70) 27 rfl W3.heap.size 34 i1 (.agg #[.bool false, .string ByteArray.empty, .int .i64 0, .nilIface]) 4 48 Ybaf.underlying27 ji jz0 jz1 jz2 rfl (by decide) v5 2 _ rfl (o5.alloc _) ⟨w5.heap.size, 0, none⟩ 1 1 [.bool true, .string ByteArray.empty, .int .i64 2, .iface 9 (.string secondS)] rfl rfl (four_new _ _ _ _ _ _) (four_one _ _ _ _ _) (by decide) (by decide) (base_le Bw5) ?_)
          intro v6 w6 o6 g6 _
          have Bw6 := want_push Bw5 o5 g6
          clear g6
          go_wp2
          go_meet
          have e1 : i = 1 := by simpa using h1
          subst e1
          obtain ⟨wa, wcp, hv⟩ := wants_form o6
          exact ⟨_, _, wa, wcp, .inr (.inl ⟨rfl, rfl, rfl⟩), rfl, hv, o6, Bw6⟩
        · have h1 : (i == 1) = false := by simpa using h1
          go_wp2_with (at_builtin; refine wpList_append_own _ rfl (.tmp 52) (.tmp 58) 27 rfl W3.heap.size 34 i1 (.agg #[.bool false, .string ByteArray.empty, .int .i64 0, .nilIface]) 4 48 Ybaf.underlying27 ji jz0 jz1 jz2 rfl (by decide) (.slice none 0 0) 0 [] rfl (N0.alloc _) ⟨W3.heap.size, 0, none⟩ 1 1 [.bool false, .string peer, .int .i64 0, .iface 32 (.agg #[.int .i64 i])] rfl rfl (four_new _ _ _ _ _ _) (four_one _ _ _ _ _) (by decide) (by decide) (base_le BW3) ?_)
          intro v4 w4 o4 g4 _
          have Bw4 := want_push BW3 N0 g4
          clear g4
          go_wp2
          go_meet
          obtain ⟨wa, wcp, hv⟩ := wants_form o4
          exact ⟨_, _, wa, wcp, .inl ⟨i, h1, rfl, rfl, rfl⟩, rfl, hv, o4, Bw4⟩
      · have q0 : (kind % 6 == 0) = false := by simp [h]
        have q1 : (kind % 6 == 1) = true := by simp [h]
        clear h
        go_wp2
        go_meet
        exact ⟨_, _, none, 0, .inr (.inr (.inl ⟨i, rfl, rfl, rfl⟩)), rfl, rfl, N0, BW3⟩
      · have q0 : (kind % 6 == 0) = false := by simp [h]
        have q1 : (kind % 6 == 1) = false := by simp [h]
        have q2 : (kind % 6 == 2) = true := by simp [h]
        clear h
        go_wp2
        go_meet
        exact ⟨_, _, none, 0, .inr (.inr (.inr (.inl ⟨s, rfl, rfl, rfl⟩))), rfl, rfl, N0, BW3⟩
      · have q0 : (kind % 6 == 0) = false := by simp [h]
        have q1 : (kind % 6 == 1) = false := by simp [h]
        have q2 : (kind % 6 == 2) = false := by simp [h]
        have q3 : (kind % 6 == 3) = true := by simp [h]
        clear h
        by_cases h1 : (i == 10) = true
        · go_wp2_with (at_builtin; refine wpList_append_own _ rfl (.tmp 88) (.tmp 93) 27 rfl W3.heap.size 34 i1 (.agg #[.bool false, .string ByteArray.empty, .int .i64 0, .nilIface]) 4 48 Ybaf.underlying27 ji jz0 jz1 jz2 rfl (by decide) (.slice none 0 0) 0 [] rfl (N0.alloc _) ⟨W3.heap.size, 0, none⟩ 1 1 [.bool false, .string peer, .int .i64 0, .iface 31 (.agg #[.int .i64 1])] rfl rfl (four_new _ _ _ _ _ _) (four_one _ _ _ _ _) (by decide) (by decide) (base_le BW3) ?_)
          intro v4 w4 o4 g4 _
          have Bw4 := want_push BW3 N0 g4
          clear g4
          go_wp2
          go_meet
          have e1 : i = 10 := by simpa using h1
          subst e1
          obtain ⟨wa, wcp, hv⟩ := wants_form o4
          exact ⟨_, _, wa, wcp, .inr (.inr (.inr (.inr (.inr (.inl ⟨rfl, rfl, rfl⟩))))), rfl, hv, o4, Bw4⟩
        · have h1 : (i == 10) = false := by simpa using h1
          go_wp2
          go_meet
          exact ⟨_, _, none, 0, .inr (.inr (.inr (.inr (.inl ⟨i, h1, rfl, rfl, rfl⟩)))), rfl, rfl, N0, BW3⟩
      · have q0 : (kind % 6 == 0) = false := by simp [h]
        have q1 : (kind % 6 == 1) = false := by simp [h]
        have q2 : (kind % 6 == 2) = false := by simp [h]
        have q3 : (kind % 6 == 3) = false := by simp [h]
        have q4 : (kind % 6 == 4) = true := by simp [h]
        clear h
        go_wp2_with (at_builtin; refine wpList_append_own _ rfl (.tmp 99) (.tmp 105) 27 rfl W3.heap.size 34 i1 (.agg #[.bool false, .string ByteArray.empty, .int .i64 0, .nilIface]) 4 48 Ybaf.underlying27 ji jz0 jz1 jz2 rfl (by decide) (.slice none 0 0) 0 [] rfl (N0.alloc _) ⟨W3.heap.size, 0, none⟩ 1 1 [.bool false, .string peer, .int .i64 0, .iface 36 (.agg #[.string s])] rfl rfl (four_new _ _ _ _ _ _) (four_one _ _ _ _ _) (by decide) (by decide) (base_le BW3) ?_)
        intro v4 w4 o4 g4 _
        have Bw4 := want_push BW3 N0 g4
        clear g4
        go_wp2
        go_meet
        obtain ⟨wa, wcp, hv⟩ := wants_form o4
        exact ⟨_, _, wa, wcp, .inr (.inr (.inr (.inr (.inr (.inr (.inl ⟨s, rfl, rfl, rfl⟩)))))), rfl, hv, o4, Bw4⟩
      · have q0 : (kind % 6 == 0) = false := by simp [h]
        have q1 : (kind % 6 == 1) = false := by simp [h]
        have q2 : (kind % 6 == 2) = false := by simp [h]
        have q3 : (kind % 6 == 3) = false := by simp [h]
        have q4 : (kind % 6 == 4) = false := by simp [h]
        clear h
        go_wp2
        go_meet
        exact ⟨_, _, none, 0, .inr (.inr (.inr (.inr (.inr (.inr (.inr ⟨rfl, rfl, rfl⟩)))))), rfl, rfl, N0, BW3⟩
    case rest =>
      obtain ⟨L, gb, wa, wcp, ha, rfl, rfl, ownW, BW⟩ := hcut
      have P4 := P1.later BW
      clear P1 BW ji jz0 jz1 jz2
      go_wp2_with fail
      refine (recv_all _ _ _ _ _ name peer frm _ ts _ L gb P4.r ha).mono ?_
      rintro e w5 ⟨rfl, ts', tv', ev, R, hlen', hpre⟩
      have Q5 := post_of P4 R ownW
      have hok := ha.ok
      obtain ⟨ta, tcp, rfl⟩ := took_form Q5.town
      obtain ⟨ea, ecp, rfl⟩ := wants_form Q5.eown
      clear R ownW P4 ha
      have ka := Q5.a
      have kt := Q5.took
      have ke := Q5.log
      have hL3 := hok.2
      go_upto_block 1 with fail
      go_cut [21, 22, 23] (fun _ _ _ wx => Below w5.heap.size w5 wx)
      case first =>
        go_wp2_with fail
        go_loopw [21, 22, 23] (fun k _ _ wr => ∃ j : Nat, j ≤ L.length ∧ k = .int .i64 j ∧ Below w5.heap.size w5 wr) (fun k _ _ _ => L.length - (intOf k).toNat)
        case atStart => exact ⟨0, Nat.zero_le _, rfl, Below.refl _ _⟩
        case round =>
          obtain ⟨j, hj, rfl, B⟩ := hrel
          by_cases hlt : j < L.length
          · obtain ⟨⟨ca, ct, ck, cm⟩, hc⟩ : ∃ c, L[j]? = some c := ⟨L[j], by simp [hlt]⟩
            have hm := hok.1 _ (List.mem_of_getElem? hc)
            obtain ⟨mt, mv, hcm⟩ := hm.shape
            simp only at hcm
            subst hcm
            obtain ⟨gE, cpE, eE⟩ := Joins.ownsRow_form Q5.eown (by omega)
            obtain ⟨gW, cpW, eW⟩ := Joins.ownsRow_form Q5.wown (by omega)
            have lE := block_lt_of_cell ke
            simp at eE eW
            obtain ⟨rfl, rfl⟩ := eE
            obtain ⟨rfl, rfl⟩ := eW
            have d2 : wr.cell? ⟨w2.heap.size + 1 + 1, 2, none⟩ = some (.slice (some ⟨gE, 0, none⟩) L.length ecp) := (B.cell (p := ⟨w2.heap.size + 1 + 1, 2, none⟩) lE).trans ke
            obtain ⟨l1, x0, x1, x2, x3⟩ := entry_cells Q5.eown hc B
            obtain ⟨l2, y0, y1, y2, y3⟩ := entry_cells Q5.wown hc B
            have hBs := B.size
            clear ka kt ke hc lE
            go_wp2_with (go_at_call 7; refine (same_ok _ hm _).mono ?_; rintro e w6 ⟨rfl, B6⟩)
            go_roundw
            case rel => exact ⟨j + 1, by omega, by go_num, ((B.alloc hBs _).alloc (by simp; omega) _).trans (B6.mono (by simp; omega))⟩
            case measure => simp [intOf]; omega
          · go_wp2
            go_meet
            exact B
      case rest =>
        have kt' := (hcut.cell (p := ⟨w2.heap.size, 1, none⟩) (block_lt_of_cell kt)).trans kt
        have BB := Q5.below.trans (hcut.mono (by have := Q5.below.size; omega))
        clear ka ke hok
        cases gb
        all_goals
          simp at hlen'
          go_upto_block 3 with fail
          have hle : ts.length ≤ ts'.length := by omega
          clear hlen'
          go_wp2_with fail
          go_loopw [25] (fun k wr => ∃ j : Nat, j ≤ ts.length ∧ k = .int .i64 j ∧ Below w5.heap.size w5 wr) (fun k _ => ts.length - (intOf k).toNat)
          case atStart => exact ⟨0, Nat.zero_le _, rfl, hcut⟩
          case round =>
            obtain ⟨j, hj, rfl, B⟩ := hrel
            by_cases hlt : j < ts.length
            · obtain ⟨x, hx⟩ : ∃ x, ts[j]? = some x := ⟨ts[j], by simp [hlt]⟩
              have hx' := (hpre j hlt).trans hx
              obtain ⟨gT, cpT, eT⟩ := Joins.ownsRow_form Q5.town (by omega)
              have e1 : ta = some ⟨gT, 0, none⟩ := by injection eT
              subst e1
              obtain ⟨y0, y1⟩ := took_cells Q5.town Q5.old hx hx' B
              have kt2 := (B.cell (p := ⟨w2.heap.size, 1, none⟩) (block_lt_of_cell kt)).trans kt
              have hjl : j < ts'.length := by omega
              have hji : (j : Int) < (ts'.length : Int) := by omega
              have hjk : (j : Int) < (ts.length : Int) := by omega
              clear hx hx' hpre kt kt' eT
              go_upto_region 50 with fail
              go_region
              all_goals go_wp2
              all_goals go_roundw
              all_goals first | exact ⟨j + 1, by omega, by go_num, B.drew⟩ | (simp [intOf]; omega)
            · go_wp2
              go_ret
              exact ⟨rfl, Q5.below.trans (B.mono (by have := Q5.below.size; omega))⟩
end Go.Proofs.YbulkoluFmt
