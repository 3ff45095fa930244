import Derived.Test.YbulkdhzkWalkEq
import Derived.Test.YbulkdhzkWalkClone
import Derived.Test.YbulkdhzkWalkSized
namespace Go.Proofs.Ybulkdhzk
open Go.RowKit

theorem law_big (a0 a1 : Option Addr) (n c0 m c1 : Nat) (w : World) (h : 1048576 < n ∨ 1048576 < m) :
    Calls Yba.prog 3 #[.slice a0 n c0, .slice a1 m c1] w fun e w' => e = .returned (.bool true) ∧ Below w.heap.size w w' := by
  by_cases h1 : 1048576 < n
  · go_enter Yba.func3, Yba.ntmps3
    go_wp2
    go_ret
    exact ⟨rfl, Below.refl _ _⟩
  · have h2 : 1048576 < m := by omega
    go_enter Yba.func3, Yba.ntmps3
    go_wp2
    go_ret
    exact ⟨rfl, Below.refl _ _⟩

theorem below_drewN {B : Nat} {a w : World} (h : Below B a w) (n : Nat) : Below B a (w.drewN n) := h.trans ⟨rfl, rfl, rfl, Nat.le_refl _, fun _ _ => rfl⟩

theorem owns_none {w : World} {base n c : Nat} {a : Option Addr} {xs : List Value} (h : w.ownsRow base 5 1 (.slice a n c) n xs) : a = none → n = 0 := by
  rintro rfl
  rcases h.2 with ⟨_, h0⟩ | ⟨g, cap, cur, hv, _⟩
  · exact h0
  · cases hv

/-- A byte of a slice that is read. -/
theorem rd_at {w : World} {a : Option Addr} {n : Nat} {zs : List Int} (h : Rd w a n zs) {k : Nat} (hk : k < n) : ∃ b o, a = some ⟨b, o, none⟩ ∧ w.cell? ⟨b, o + k, none⟩ = some (.int .u8 (zs.getD k 0)) := by
  obtain ⟨_, h0 | ⟨b, o, ha, hc⟩⟩ := h
  · omega
  · exact ⟨b, o, ha, hc k hk⟩

theorem take_snoc {zs : List Int} {k : Nat} (hk : k < zs.length) : zs.take (k + 1) = zs.take k ++ [zs.getD k 0] := by
  rw [List.take_succ_eq_append_getElem hk]; simp [List.getD, hk]

set_option maxHeartbeats 4000000 in
set_option maxRecDepth 100000 in
theorem law_small (a0 a1 : Option Addr) (n c0 m c1 : Nat) (zs ys : List Int) (w : World) (ha : Rd w a0 n zs) (hd : Rd w a1 m ys) (h0 : a0 = none → n = 0) (h1 : a1 = none → m = 0) (hn : n ≤ 1048576) (hm : m ≤ 1048576) :
    Calls Yba.prog 3 #[.slice a0 n c0, .slice a1 m c1] w fun e w' => e = .returned (.bool true) ∧ Below w.heap.size w w' := by
  obtain ⟨i0, hi, hz0, hz1, hz2⟩ := info_parts Yba.info5
  go_enter Yba.func3, Yba.ntmps3
  go_wp2_with fail
  refine (clone_any a0 n c0 zs w ha h0 hn).mono ?_
  rintro e w1 ⟨v, rfl, b0, rfl, hB0, hb1⟩
  go_wp2_with fail
  refine (clone_any a1 m c1 ys w1 (hd.below hb1 (Nat.le_refl _)) h1 hm).mono ?_
  rintro e w2 ⟨v, rfl, d0, rfl, hD0, hb2⟩
  go_wp2_with fail
  have hb02 := hb1.trans (hb2.mono hb1.size)
  refine (clone_any a0 n c0 zs w2 (ha.below hb02 (Nat.le_refl _)) h0 hn).mono ?_
  rintro e w3 ⟨v, rfl, bc, rfl, hBC, hb3⟩
  go_wp2_with fail
  have hb03 := hb02.trans (hb3.mono hb02.size)
  refine (clone_any a1 m c1 ys w3 (hd.below hb03 (Nat.le_refl _)) h1 hm).mono ?_
  rintro e w4 ⟨v, rfl, dc, rfl, hDC, hb4⟩
  go_wp2_with fail
  have hb04 := hb03.trans (hb4.mono hb03.size)
  have rBC := (rd_of_owns hBC).below hb4 (Nat.le_refl _)
  have rDC := rd_of_owns hDC
  refine (sized_at bc dc n m m zs ys w4 rBC rDC (owns_none hBC) (owns_none hDC) (owns_none hDC) hn hm).mono ?_
  rintro e w5 ⟨g, cap, rfl, hG, hb5⟩
  have rB0 := (rd_of_owns hB0).below (hb2.trans ((hb3.mono hb2.size).trans ((hb4.mono (Nat.le_trans hb2.size hb3.size)).trans (hb5.mono (Nat.le_trans hb2.size (Nat.le_trans hb3.size hb4.size)))))) (Nat.le_refl _)
  have rD04 := (rd_of_owns hD0).below (hb3.trans (hb4.mono hb3.size)) (Nat.le_refl _)
  have rD0 := rD04.below hb5 (Nat.le_refl _)
  have rBC5 := rBC.below hb5 (Nat.le_refl _)
  have rDC5 := rDC.below hb5 (Nat.le_refl _)
  have rG := rd_of_owns hG
  have hb05 := hb04.trans (hb5.mono hb04.size)
  have ra5 := ha.below hb05 (Nat.le_refl _)
  have rd5 := hd.below hb05 (Nat.le_refl _)
  clear hBC hB0 hD0 rBC hb1 hb2 hb02 hb3 hb03
  go_wp2_with (at_make; refine wpList_make_own _ rfl _ _ 22 rfl w5.heap.size 5 i0 (.int .u8 0) 1 Yba.underlying22 hi hz0 hz1 _ _ _ (n + 2 + m) rfl rfl (by omega) ?b2 ?b3 (Nat.le_refl _) ?_)
  case b2 => rw [hz2]; omega
  case b3 => unfold maxLen; omega
  intro w6 hW6 hg6
  have hb6 : Below w5.heap.size w5 w6 := (Below.refl _ _).grown hg6 (Nat.le_refl _) (fun k h => by cases h)
  clear hg6
  go_wp2
  go_loopw [11, 12] (fun v i wr => ∃ k : Nat, k ≤ n ∧ i = .int .i64 k ∧ v = .slice (some ⟨w5.heap.size, 0, none⟩) k (n + 2 + m) ∧
      wr.ownsRow w5.heap.size 5 1 (.slice (some ⟨w5.heap.size, 0, none⟩) k (n + 2 + m)) k ((zs.take k).map (Value.int .u8)) ∧ Below w5.heap.size w5 wr) (fun _ i _ => n - (intOf i).toNat)
  case atStart => exact ⟨0, Nat.zero_le _, rfl, rfl, by simpa using hW6, hb6⟩
  case round =>
    obtain ⟨k, hk, rfl, rfl, hW, hbr⟩ := hrel
    clear hW6 hb6
    by_cases hlt : k < n
    · obtain ⟨bb, bo, rfl, hcl⟩ := rd_at (rB0.below hbr (Nat.le_refl _)) hlt
      go_wp2_with (at_builtin; refine wpList_append_fits _ rfl _ _ 22 rfl w5.heap.size 5 i0 1 Yba.underlying22 hi hz1 w5.heap.size k (n + 2 + m) _ rfl (hW.alloc _) ⟨wr.heap.size, 0, none⟩ 1 1 [.int .u8 (zs.getD k 0)] rfl rfl ?c1 ?c2 (by omega) ?_)
      case c1 => exact cell_one_new _ _ _
      case c2 => exact ints_oneCell .u8 [zs.getD k 0]
      intro wn hWn hgn
      have R : wn.ownsRow w5.heap.size 5 1 (.slice (some ⟨w5.heap.size, 0, none⟩) (k + 1) (n + 2 + m)) (k + 1) ((zs.take (k + 1)).map (Value.int .u8)) := by
        rw [take_snoc (by rw [ha.1]; exact hlt)]; simpa using hWn
      have hbn : Below w5.heap.size w5 wn := (hbr.alloc hbr.size _).grown hgn (by have := hbr.size; simp; omega) (fun k hk => by cases hk; exact Nat.le_refl _)
      clear hWn hgn hW hcl
      go_wp2
      go_roundw
      case rel => exact ⟨k + 1, by omega, by go_num, rfl, R, hbn⟩
      case measure => simp [intOf]; omega
    · have hkn : k = n := by omega
      subst hkn
      have e2 : zs.take k = zs := List.take_of_length_le (by rw [ha.1]; exact Nat.le_refl _)
      rw [e2] at hW
      clear e2
      go_wp2_with (at_builtin; refine wpList_append_fits _ rfl _ _ 22 rfl w5.heap.size 5 i0 1 Yba.underlying22 hi hz1 w5.heap.size k (k + 2 + m) _ rfl (hW.alloc _) ⟨wr.heap.size, 0, none⟩ 2 2 [.int .u8 ((m : Int) % 65536 / 256), .int .u8 ((m : Int) % 256)] rfl rfl ?d1 ?d2 (by omega) ?_)
      case d1 =>
        intro j u hj
        match j, hj with
        | 0, hj => simp at hj; subst hj; simp [Addr.add]
        | 1, hj => simp at hj; subst hj; simp [Addr.add]
      case d2 => exact ints_oneCell .u8 [_, _]
      intro w7 hW7 hg7
      have hb7 : Below w5.heap.size w5 w7 := (hbr.alloc hbr.size _).grown hg7 (by have := hbr.size; simp; omega) (fun k hk => by cases hk; exact Nat.le_refl _)
      have R7 : w7.ownsRow w5.heap.size 5 1 (.slice (some ⟨w5.heap.size, 0, none⟩) (k + 2) (k + 2 + m)) (k + 2) ((zs ++ [(m : Int) % 65536 / 256, (m : Int) % 65536 % 256]).map (Value.int .u8)) := by
        have e : (m : Int) % 65536 % 256 = (m : Int) % 256 := by omega
        rw [e]
        simpa using hW7
      clear hW7 hg7 hW hbr
      go_wp2
      generalize hzz : zs ++ [(m : Int) % 65536 / 256, (m : Int) % 65536 % 256] = zz at *
      have Hzz : Hid (zs ++ [(m : Int) % 65536 / 256, (m : Int) % 65536 % 256] = zz) := hzz
      clear hzz
      go_loopw [11, 13] (fun v i wr => ∃ j : Nat, j ≤ m ∧ i = .int .i64 j ∧ v = .slice (some ⟨w5.heap.size, 0, none⟩) (k + 2 + j) (k + 2 + m) ∧
          wr.ownsRow w5.heap.size 5 1 (.slice (some ⟨w5.heap.size, 0, none⟩) (k + 2 + j) (k + 2 + m)) (k + 2 + j) ((zz ++ ys.take j).map (Value.int .u8)) ∧ Below w5.heap.size w5 wr) (fun _ i _ => m - (intOf i).toNat)
      case atStart => exact ⟨0, Nat.zero_le _, rfl, rfl, by simpa using R7, hb7⟩
      case round =>
        obtain ⟨j, hj, rfl, rfl, hW, hbr⟩ := hrel
        clear R7 hb7
        by_cases hlt : j < m
        · obtain ⟨db, dof, rfl, hcl⟩ := rd_at (rD0.below hbr (Nat.le_refl _)) hlt
          go_wp2_with (at_builtin; refine wpList_append_fits _ rfl _ _ 22 rfl w5.heap.size 5 i0 1 Yba.underlying22 hi hz1 w5.heap.size (k + 2 + j) (k + 2 + m) _ rfl (hW.alloc _) ⟨wr.heap.size, 0, none⟩ 1 1 [.int .u8 (ys.getD j 0)] rfl rfl ?e1 ?e2 (by omega) ?_)
          case e1 => exact cell_one_new _ _ _
          case e2 => exact ints_oneCell .u8 [ys.getD j 0]
          intro wn hWn hgn
          have R : wn.ownsRow w5.heap.size 5 1 (.slice (some ⟨w5.heap.size, 0, none⟩) (k + 2 + (j + 1)) (k + 2 + m)) (k + 2 + (j + 1)) ((zz ++ ys.take (j + 1)).map (Value.int .u8)) := by
            rw [take_snoc (by rw [hd.1]; exact hlt), ← Nat.add_assoc]; simpa using hWn
          have hbn : Below w5.heap.size w5 wn := (hbr.alloc hbr.size _).grown hgn (by have := hbr.size; simp; omega) (fun k hk => by cases hk; exact Nat.le_refl _)
          clear hWn hgn hW hcl
          go_wp2
          go_roundw
          case rel => exact ⟨j + 1, by omega, by go_num, by go_num, R, hbn⟩
          case measure => simp [intOf]; omega
        · have hjm : j = m := by omega
          subst hjm
          have rW := rd_of_owns hW
          have e2 : ys.take j = ys := List.take_of_length_le (by rw [hd.1]; exact Nat.le_refl _)
          rw [e2] at rW
          go_wp2_with fail
          refine (eq_true _ _ (k + 2 + j) _ _ (zz ++ ys) wr (rG.below hbr (Nat.le_refl _)) rW (by omega)).mono ?_
          rintro e wq1 ⟨rfl, q1, rfl⟩
          go_wp2_with fail
          refine (eq_true _ _ k _ _ zs _ ((rBC5.below hbr (Nat.le_refl _)).drewN q1) ((rB0.below hbr (Nat.le_refl _)).drewN q1) (by omega)).mono ?_
          rintro e wq2 ⟨rfl, q2, rfl⟩
          go_wp2_with fail
          refine (eq_true _ _ j _ _ ys _ ((rDC5.below hbr (Nat.le_refl _)).drewN _) ((rD0.below hbr (Nat.le_refl _)).drewN _) (by omega)).mono ?_
          rintro e wq3 ⟨rfl, q3, rfl⟩
          go_wp2_with fail
          refine (eq_true _ _ k _ _ zs _ ((ra5.below hbr (Nat.le_refl _)).drewN _) ((rB0.below hbr (Nat.le_refl _)).drewN _) (by omega)).mono ?_
          rintro e wq4 ⟨rfl, q4, rfl⟩
          go_wp2_with fail
          refine (eq_true _ _ j _ _ ys _ ((rd5.below hbr (Nat.le_refl _)).drewN _) ((rD0.below hbr (Nat.le_refl _)).drewN _) (by omega)).mono ?_
          rintro e wq5 ⟨rfl, q5, rfl⟩
          by_cases hj0 : 0 < j
          · obtain ⟨db, dof, rfl, hdc⟩ := rd_at (k := j - 1) rDC (by omega)
            obtain ⟨eb, eof, rfl, hec⟩ := rd_at (k := j - 1) rD04 (by omega)
            have hdb := World.block_lt_of_cell? w4 _ hdc
            have heb := World.block_lt_of_cell? w4 _ hec
            have hg4 := hG.lt g rfl
            have hdb' : db < g := Nat.lt_of_lt_of_le hdb hg4.1
            have heb' : eb < g := Nat.lt_of_lt_of_le heb hg4.1
            have hb4r : Below w4.heap.size w4 wr := hb5.trans (hbr.mono hb5.size)
            have hdcr : wr.cell? ⟨db, dof + (j - 1), none⟩ = some (.int .u8 (ys.getD (j - 1) 0)) := (hb4r.cell (p := ⟨db, dof + (j - 1), none⟩) hdb).trans hdc
            have hecr : wr.cell? ⟨eb, eof + (j - 1), none⟩ = some (.int .u8 (ys.getD (j - 1) 0)) := (hb4r.cell (p := ⟨eb, eof + (j - 1), none⟩) heb).trans hec
            obtain ⟨x, hgc⟩ : ∃ x, wr.cell? ⟨g, k + 1 + j, none⟩ = some (.int .u8 x) := by
              obtain ⟨b', o', hx, hxc⟩ := rd_at (k := k + 1 + j) (rG.below hbr (Nat.le_refl _)) (by omega)
              simp only [Option.some.injEq, Addr.mk.injEq, and_true] at hx
              obtain ⟨rfl, rfl⟩ := hx
              exact ⟨_, by simpa using hxc⟩
            have hgf : wr.frozen? ⟨g, k + 1 + j, none⟩ = false := by
              rw [hbr.frozen (p := ⟨g, k + 1 + j, none⟩) hg4.2]
              rcases hG.2 with ⟨hv, _⟩ | ⟨g', cap', cur, hv, _, hgg, _⟩
              · cases hv
              · simp only [Value.slice.injEq, Option.some.injEq, Addr.mk.injEq, and_true] at hv
                obtain ⟨rfl, _, rfl⟩ := hv
                simp [World.frozen?, hgg]
            have hb0r : Below w.heap.size w wr := hb05.trans (hbr.mono hb05.size)
            have hgw : w.heap.size ≤ g := Nat.le_trans hb04.size hg4.1
            clear hdc hec hdb heb hg4 hb4r hG rG rW hW rB0 rBC5 rDC5 rD0 rD04 rDC hDC ra5 rd5 ha hd hb4 hb04 hb5 hb05 hbr
            go_wp2
            go_quiet (fail)
            go_wp2
            go_ret
            refine ⟨rfl, ?_⟩
            exact below_drewN ((below_drewN hb0r _).setCell (p := ⟨g, k + 1 + j, none⟩) hgw _) _
          · go_wp2
            go_ret
            exact ⟨rfl, below_drewN (hb05.trans (hbr.mono hb05.size)) _⟩

end Go.Proofs.Ybulkdhzk
