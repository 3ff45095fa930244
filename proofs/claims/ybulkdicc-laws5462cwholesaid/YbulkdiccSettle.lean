import Derived.Test.YbulkdiccClone
import Derived.Test.YbulkdiccEqual
import Derived.Deep.AppendLies
import Derived.RegionTactic
import Derived.Deep.DeepCutAuto
import Derived.Deep.QuietTactic
import Derived.BigQuiet
import Derived.Deep.RegionWith
namespace Go.Proofs.Ybulkdicc
open Go.RowKit
set_option linter.unusedVariables false

theorem opV_cells (z : Int) : (opV z).cells = #[opV z] := rfl
theorem opV_one (z : Int) : (opV z).oneCell' = true := rfl

theorem settleL_len {α : Type} (op : α) (K : List (Sp α)) (F : List (Nat × Nat)) : (settleL op K F).length ≤ K.length + F.length := by
  fun_induction settleL op K F with
  | case1 K => simp
  | case2 m F ih => simp at ih ⊢; omega
  | case3 k K m F hle ih => simp at ih ⊢; omega
  | case4 k K m F hn hlt ih => simp at ih ⊢; omega
  | case5 k K m F hn hlt ih => simp at ih ⊢; omega

theorem settle_take {op : Int} {K : List (Sp Int)} {F : List (Nat × Nat)} {nx j : Nat} (hk : nx < K.length) (hj : j < F.length) (h : (K[nx]).e ≤ (F[j]).1) :
    settleL op (K.drop nx) (F.drop j) = K[nx] :: settleL op (K.drop (nx + 1)) (F.drop j) := by
  rw [List.drop_eq_getElem_cons hk, List.drop_eq_getElem_cons hj, settleL, if_pos h]
theorem settle_skip {op : Int} {K : List (Sp Int)} {F : List (Nat × Nat)} {nx j : Nat} (hk : nx < K.length) (hj : j < F.length) (h : ¬ (K[nx]).e ≤ (F[j]).1) (h2 : (K[nx]).s < (F[j]).2) :
    settleL op (K.drop nx) (F.drop j) = settleL op (K.drop nx) (F.drop (j + 1)) := by
  rw [List.drop_eq_getElem_cons hk, List.drop_eq_getElem_cons hj, settleL, if_neg h, if_pos h2]
theorem settle_put {op : Int} {K : List (Sp Int)} {F : List (Nat × Nat)} {nx j : Nat} (hk : nx < K.length) (hj : j < F.length) (h : ¬ (K[nx]).e ≤ (F[j]).1) (h2 : ¬ (K[nx]).s < (F[j]).2) :
    settleL op (K.drop nx) (F.drop j) = ⟨(F[j]).1, (F[j]).2, op⟩ :: settleL op (K.drop nx) (F.drop (j + 1)) := by
  rw [List.drop_eq_getElem_cons hk, List.drop_eq_getElem_cons hj, settleL, if_neg h, if_neg h2]
theorem settle_end {op : Int} {K : List (Sp Int)} {F : List (Nat × Nat)} {nx j : Nat} (hk : K.length ≤ nx) (hj : j < F.length) :
    settleL op (K.drop nx) (F.drop j) = ⟨(F[j]).1, (F[j]).2, op⟩ :: settleL op (K.drop nx) (F.drop (j + 1)) := by
  rw [List.drop_of_length_le hk, List.drop_eq_getElem_cons hj, settleL]

theorem snoc_row {w : World} {B : Nat} {a : Option Addr} {c : Nat} {out : List (Sp Int)} {k : Sp Int} (h : w.ownsRow B 50 3 (.slice a (out.length + 1) c) (out.length + 1) (out.flatMap spC ++ spC k)) : SRow w B (.slice a (out ++ [k]).length c) (out ++ [k]) := by
  unfold SRow
  rw [List.length_append, List.flatMap_append]
  simpa using h

theorem spC_one1 (k : Sp Int) : ∀ u ∈ spC k, u.oneCell' = true := by
  have := spC_one [k]
  simpa using this

theorem news3 (w : World) (k : Sp Int) : ∀ j u, (spC k)[j]? = some u → (w.alloc (.cells #[.int .i64 k.s, .int .i64 k.e, opV k.o] 50)).cell? ((⟨w.heap.size, 0, none⟩ : Addr).add j) = some u :=
  World.news_of_block (heap_alloc_new w _)

theorem SRow.below {w w' : World} {B : Nat} {v : Value} {K : List (Sp Int)} (h : SRow w B v K) (hb : Below w.heap.size w w') : SRow w' B v K := owns_below h hb
theorem MRow.below {w w' : World} {B : Nat} {v : Value} {K : List (Nat × Nat)} (h : MRow w B v K) (hb : Below w.heap.size w w') : MRow w' B v K := owns_below h hb

/-- The cells of 'kept[next:]'. -/
theorem tail_cell {w : World} {B g c nx : Nat} {K : List (Sp Int)} (h : SRow w B (.slice (some ⟨g, 0, none⟩) K.length c) K) (hnx : nx ≤ K.length) {j : Nat} {u : Value} (hu : ((K.drop nx).flatMap spC)[j]? = some u) : w.cell? ⟨g, nx * 3 + j, none⟩ = some u := by
  have hj := (List.getElem?_eq_some_iff.1 hu).1
  rw [flat_len spC 3 spC_len, List.length_drop] at hj
  rw [World.ownsRow.cellAt h _ (by omega), ← hu, flat_drop spC 3 spC_len, List.getElem?_drop]

/-- The state of 'settle': what is merged so far, and what is left. -/
def Stl (w0 w : World) (op : Int) (K : List (Sp Int)) (F : List (Nat × Nat)) (nx j : Nat) (out : List (Sp Int)) : Prop :=
  SRow w w0.heap.size (.slice (some ⟨w0.heap.size, 0, none⟩) out.length (K.length + F.length)) out ∧ out ++ settleL op (K.drop nx) (F.drop j) = settleL op K F ∧ Below w0.heap.size w0 w

theorem Stl.len {w0 w : World} {op : Int} {K : List (Sp Int)} {F : List (Nat × Nat)} {nx j : Nat} {out : List (Sp Int)} (h : Stl w0 w op K F nx j out) : out.length + (settleL op (K.drop nx) (F.drop j)).length ≤ K.length + F.length := by
  rw [← List.length_append, h.2.1]; exact settleL_len op K F

theorem Stl.next {w0 w w' : World} {op : Int} {K : List (Sp Int)} {F : List (Nat × Nat)} {nx j : Nat} {out : List (Sp Int)} (h : Stl w0 w op K F nx j out) (hb : Below w.heap.size w w') : Stl w0 w' op K F nx j out :=
  ⟨owns_below h.1 hb, h.2.1, h.2.2.trans (hb.mono h.2.2.size)⟩

theorem Stl.push {w0 w w3 : World} {op : Int} {K : List (Sp Int)} {F : List (Nat × Nat)} {nx j nx' j' : Nat} {out : List (Sp Int)} {k : Sp Int} {o : Obj} (h : Stl w0 w op K F nx j out)
    (hr : w3.ownsRow w0.heap.size 50 3 (.slice (some ⟨w0.heap.size, 0, none⟩) (out.length + 1) (K.length + F.length)) (out.length + 1) (out.flatMap spC ++ spC k)) (hg : (w.alloc o).grownBy w3 (some w0.heap.size))
    (hst : settleL op (K.drop nx) (F.drop j) = k :: settleL op (K.drop nx') (F.drop j')) : Stl w0 w3 op K F nx' j' (out ++ [k]) := by
  refine ⟨snoc_row hr, ?_, ?_⟩
  · rw [List.append_assoc, List.singleton_append, ← hst]; exact h.2.1
  · exact (h.2.2.alloc h.2.2.size _).grown hg (by have := h.2.2.size; simp; omega) (fun k hk => by cases hk; exact Nat.le_refl _)

set_option maxHeartbeats 4000000 in
set_option maxRecDepth 100000 in
theorem settle_any (gk ck : Nat) (af : Option Addr) (cf B : Nat) (K : List (Sp Int)) (F : List (Nat × Nat)) (op : Int) (w : World) (hk : SRow w B (.slice (some ⟨gk, 0, none⟩) K.length ck) K) (hf : MAt w af F) (hKn : K.length ≤ 4096) (hFn : F.length ≤ 4096) :
    Calls Yba.prog 14 #[.slice (some ⟨gk, 0, none⟩) K.length ck, .slice af F.length cf, opV op] w fun e w' => ∃ v, e = .returned v ∧ SRow w' w.heap.size v (settleL op K F) ∧ Below w.heap.size w w' := by
  obtain ⟨i0, hi, hz0, hz1, hz2⟩ := info_parts Yba.info50
  obtain ⟨_, _, he, hkc, hks⟩ := hk.form
  obtain ⟨rfl, rfl⟩ : _ ∧ _ := by simpa using he
  go_enter Yba.func14, Yba.ntmps14
  go_wp2_with (at_make; refine wpList_make_own _ rfl _ _ 42 rfl w.heap.size 50 i0 _ 3 Yba.underlying42 hi hz0 hz1 _ _ _ (K.length + F.length) rfl rfl (by omega) ?b2 ?b3 (Nat.le_refl _) ?_)
  case b2 => rw [hz2]; omega
  case b3 => unfold maxLen; omega
  intro w1 hown hgrow
  have hbel : Below w.heap.size w w1 := (Below.refl _ _).grown hgrow (Nat.le_refl _) (fun k h => by cases h)
  have hS0 : Stl w w1 op K F 0 0 [] := ⟨by simpa [SRow] using hown, by simp, hbel⟩
  clear hown hgrow hbel
  go_wp2_with fail
  go_loopw [7, 8, 21] (fun m nv i wr => ∃ j nx out, j ≤ F.length ∧ nx ≤ K.length ∧ i = .int .i64 (j : Nat) ∧ nv = .int .i64 (nx : Nat) ∧ m = .slice (some ⟨w.heap.size, 0, none⟩) out.length (K.length + F.length) ∧ Stl w wr op K F nx j out) (fun _ _ i _ => F.length - (intOf i).toNat)
  case atStart => exact ⟨0, 0, [], Nat.zero_le _, Nat.zero_le _, rfl, rfl, rfl, hS0⟩
  case round =>
    obtain ⟨j, nx, out, hj, hnx, rfl, rfl, rfl, hS⟩ := hrel
    clear hS0
    by_cases hjlt : j < F.length
    · obtain ⟨gf, rfl, f0, f1⟩ := (hf.same hS.2.2).at_ j hjlt
      go_upto_region 6 with fail
      have hbA : Below wr.heap.size wr (wr.alloc (.cells #[.int .i64 (F[j]).1, .int .i64 (F[j]).2] 53)).drew := below_drew ((Below.refl _ _).alloc (Nat.le_refl _) _)
      go_region
      have hSA := hS.next hbA
      clear hbA hS f0 f1
      generalize (wr.alloc (.cells #[.int .i64 (F[j]).1, .int .i64 (F[j]).2] 53)).drew = wB at *
      go_wp2_with fail
      go_loopw [7, 8] (fun m nv wr => ∃ nx out, nx ≤ K.length ∧ nv = .int .i64 (nx : Nat) ∧ m = .slice (some ⟨w.heap.size, 0, none⟩) out.length (K.length + F.length) ∧ Stl w wr op K F nx j out) (fun _ nv _ => K.length - (intOf nv).toNat)
      case atStart => exact ⟨nx, out, hnx, rfl, rfl, hSA⟩
      case round =>
        obtain ⟨nx2, out2, hnx2, rfl, rfl, hS2⟩ := hrel
        clear hSA
        have hlen := hS2.len
        by_cases hlt : nx2 < K.length
        · obtain ⟨g, hg, k0, k1, k2⟩ := (hks.same hS2.2.2).at_ nx2 hlt
          cases hg
          by_cases hle : (K[nx2]).e ≤ (F[j]).1
          · have hst := settle_take (op := op) hlt hjlt hle
            rw [hst, List.length_cons] at hlen
            go_wp2_with (at_builtin; refine wpList_append_fits _ rfl (.tmp 42) (.tmp 47) 42 rfl w.heap.size 50 i0 3 Yba.underlying42 hi hz1 w.heap.size out2.length (K.length + F.length) (out2.flatMap spC) rfl (World.ownsRow.alloc hS2.1 _) ⟨wr.heap.size, 0, none⟩ 1 1 (spC K[nx2]) rfl rfl (news3 _ _) (spC_one1 _) (by omega) ?_)
            intro w3 hr3 hg3
            have hS3 : Stl w w3 op K F (nx2 + 1) j (out2 ++ [K[nx2]]) := hS2.push hr3 hg3 (by rw [hst])
            go_wp2_with fail
            go_roundw
            case rel => exact ⟨nx2 + 1, out2 ++ [K[nx2]], by omega, by go_num, by simp, hS3⟩
            case measure => simp [intOf]; omega
          · by_cases hov : (K[nx2]).s < (F[j]).2
            · have hst := settle_skip (op := op) hlt hjlt hle hov
              go_wp2_with fail
              go_roundw
              case rel => exact ⟨j + 1, nx2, out2, by omega, hnx2, by go_num, rfl, rfl, hS2.1, by rw [← hst]; exact hS2.2.1, hS2.2.2⟩
              case measure => simp [intOf]; omega
            · have hst := settle_put (op := op) hlt hjlt hle hov
              rw [hst, List.length_cons] at hlen
              go_wp2_with (at_builtin; refine wpList_append_fits _ rfl (.tmp 64) (.tmp 69) 42 rfl w.heap.size 50 i0 3 Yba.underlying42 hi hz1 w.heap.size out2.length (K.length + F.length) (out2.flatMap spC) rfl (World.ownsRow.alloc hS2.1 _) ⟨wr.heap.size, 0, none⟩ 1 1 (spC ⟨(F[j]).1, (F[j]).2, op⟩) rfl rfl (news3 _ _) (spC_one1 _) (by omega) ?_)
              intro w3 hr3 hg3
              have hS3 : Stl w w3 op K F nx2 (j + 1) (out2 ++ [⟨(F[j]).1, (F[j]).2, op⟩]) := hS2.push hr3 hg3 (by rw [hst])
              go_wp2_with fail
              go_roundw
              case rel => exact ⟨j + 1, nx2, _, by omega, hnx2, by go_num, rfl, by simp, hS3⟩
              case measure => simp [intOf]; omega
        · have hst := settle_end (op := op) (by omega : K.length ≤ nx2) hjlt
          rw [hst, List.length_cons] at hlen
          go_wp2_with (at_builtin; refine wpList_append_fits _ rfl (.tmp 64) (.tmp 69) 42 rfl w.heap.size 50 i0 3 Yba.underlying42 hi hz1 w.heap.size out2.length (K.length + F.length) (out2.flatMap spC) rfl (World.ownsRow.alloc hS2.1 _) ⟨wr.heap.size, 0, none⟩ 1 1 (spC ⟨(F[j]).1, (F[j]).2, op⟩) rfl rfl (news3 _ _) (spC_one1 _) (by omega) ?_)
          intro w3 hr3 hg3
          have hS3 : Stl w w3 op K F nx2 (j + 1) (out2 ++ [⟨(F[j]).1, (F[j]).2, op⟩]) := hS2.push hr3 hg3 (by rw [hst])
          go_wp2_with fail
          go_roundw
          case rel => exact ⟨j + 1, nx2, _, by omega, hnx2, by go_num, rfl, by simp, hS3⟩
          case measure => simp [intOf]; omega
    · obtain rfl : j = F.length := by omega
      have hlen := hS.len
      have hfin : out ++ K.drop nx = settleL op K F := by
        have := hS.2.1
        rw [List.drop_of_length_le (Nat.le_refl F.length)] at this
        rw [← this]
        congr 1
        rw [settleL]
      have hl2 : out.length + (K.length - nx) ≤ K.length + F.length := by
        rw [← List.length_drop, ← List.length_append, hfin]; exact settleL_len op K F
      go_wp2_with (at_builtin; refine wpList_append_fits_any _ rfl (.tmp 72) (.tmp 75) 42 rfl w.heap.size 50 i0 3 Yba.underlying42 hi hz1 w.heap.size out.length (K.length + F.length) (out.flatMap spC) rfl hS.1 _ (K.length - nx) _ ((K.drop nx).flatMap spC) rfl (by rw [flat_len spC 3 spC_len, List.length_drop]) ?n1 ?n2 (spC_one _) hl2 ?_)
      all_goals first
        | (intro j u hu; exact tail_cell (hk.below hS.2.2) hnx hu)
        | (intro j u hu; rw [List.drop_of_length_le (by omega)] at hu; simp at hu; done)
        | skip
      all_goals
        intro w3 hr3 hg3
        go_wp2_with fail
        go_ret
        refine ⟨_, rfl, ?_, hS.2.2.grown hg3 hS.2.2.size (fun k hk => by cases hk; exact Nat.le_refl _)⟩
        rw [← hfin]
        unfold SRow
        rw [List.length_append, List.length_drop, List.flatMap_append]
        exact hr3

end Go.Proofs.Ybulkdicc
