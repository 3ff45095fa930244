import Derived.Test.YbulkdibaLaws
namespace Go.Proofs.Ybulkdiba
open Go.RowKit Go.Maps
set_option linter.unusedVariables false

theorem id_step (F : Array Value) (x k : Nat) (v : Int) (hk : k < F.size) (hFa : ∀ p, p < k → F[p]? = some (.int .u8 (idb x p))) (hv : v = idb x k) :
    ∀ p, p < k + 1 → (F.setIfInBounds k (.int .u8 v))[p]? = some (.int .u8 (idb x p)) := by
  intro p hp
  rw [Array.getElem?_setIfInBounds]
  by_cases h : k = p
  · subst h; rw [if_pos rfl, if_pos hk, hv]
  · rw [if_neg h]; exact hFa p (by omega)

set_option maxHeartbeats 1000000 in
set_option maxRecDepth 100000 in
theorem id_any (x : Nat) (w : World) (hx : x < 256) :
    Calls Yba.prog 5 #[.int .u8 x] w fun e w' => e = .returned (.agg (idArr x)) ∧ Below w.heap.size w w' := by
  go_enter Yba.func5, Yba.ntmps5
  go_wp2
  go_loopw [4] (fun i wr => ∃ k : Nat, ∃ Z F : Array Value, k ≤ 20 ∧ i = .int .i64 k ∧ F.size = 20 ∧ Z.size = 20 ∧ (∀ p, p < k → F[p]? = some (.int .u8 (idb x p))) ∧ wr = (w.alloc (.cells Z 49)).alloc (.cells F 49)) (fun i _ => 20 - (intOf i).toNat)
  case atStart => exact ⟨0, _, _, by omega, rfl, rfl, rfl, fun p hp => by omega, rfl⟩
  case round =>
    obtain ⟨k, Z, F, hk, rfl, hF, hZ, hFa, rfl⟩ := hrel
    by_cases hlt : k < 20
    · obtain ⟨f, hf⟩ : ∃ f, F[k]? = some f := ⟨_, Array.getElem?_eq_getElem (by omega)⟩
      have hv : ((x : Int) * ((k : Int) + 1) + (k : Int)) % 256 = ((idb x k : Nat) : Int) := by unfold idb; push_cast; rfl
      have HV : Hid (((x : Int) * ((k : Int) + 1) + (k : Int)) % 256 = ((idb x k : Nat) : Int)) := hv
      clear hv
      have HF := id_step F x k _ (by omega) hFa HV.out
      have HF' : Hid (∀ p, p < k + 1 → (F.setIfInBounds k (.int .u8 (((x : Int) * ((k : Int) + 1) + (k : Int)) % 256)))[p]? = some (.int .u8 (idb x p))) := HF
      clear HF hFa
      go_wp2
      go_roundw
      case rel => exact ⟨k + 1, Z, _, by omega, by go_num, by simp [hF], hZ, HF'.out, rfl⟩
      case measure => simp [intOf]; omega
    · have hk20 : k = 20 := by omega
      subst hk20
      obtain rfl := idArr_of x F hF hFa
      clear hF hFa
      have hb0 : Below w.heap.size w ((w.alloc (.cells Z 49)).alloc (.cells (idArr x) 49)) := ((Below.refl _ _).alloc (Nat.le_refl _) _).alloc (by simp) _
      go_wp2_with (first | (refine wpList_load_row rfl 49 (.tmp 3) rfl (w.heap.size + 1) rfl 49 (idArr x) (0, 0) _ (heap_alloc2_new _ _ _) Yba.underlying49 rfl (by rw [size_idArr]; exact Yba.size49) ?_) | (refine wpList_store_row rfl 49 (.tmp 2) (.tmp 19) rfl rfl w.heap.size 0 Z (idArr x) 49 rfl rfl (heap_alloc2_old _ _ _) (by rw [size_idArr]; exact Yba.size49) (by rw [size_idArr, hZ]; omega) (idArr_one x) ?_; intro w2 h2 hg2 hs2))
      rw [spl_whole _ _ (by rw [hZ, size_idArr])] at h2
      exact bodyPost_ret (v := .agg (idArr x)) (results_cell_row Yba.results5 _ _ w.heap.size 49 (idArr x) (0, 0) _ rfl h2 Yba.underlying49 rfl (by rw [size_idArr]; exact Yba.size49)) rfl ⟨rfl, hb0.grown hg2 (by simp; omega) (fun k hk => by cases hk; exact Nat.le_refl _)⟩

end Go.Proofs.Ybulkdiba
