import Derived.Test.YbulkdhzyMask
import Derived.ProofKit
import Derived.RegionTactic
import Derived.BigRegion
import Derived.Deep.QuietTactic
import Derived.BigQuiet
namespace Go.Proofs.Ybulkdhzy
open Go.RowKit
set_option linter.unusedVariables false

theorem zero29 (w : World) : (zeroValue 29).run Yba.prog w = .ok (.agg (Array.replicate 9 (.int .u64 0))) w := by kernel_rfl

theorem nine (F : Array Value) (f : Nat → Int) (hF : F.size = 9) (h : ∀ p, p < 9 → F[p]? = some (.int .u64 (f p))) :
    F = #[.int .u64 (f 0), .int .u64 (f 1), .int .u64 (f 2), .int .u64 (f 3), .int .u64 (f 4), .int .u64 (f 5), .int .u64 (f 6), .int .u64 (f 7), .int .u64 (f 8)] := by
  apply Array.ext_getElem?
  intro p
  by_cases hp : p < 9
  · rw [h p hp]
    match p, hp with
    | 0, _ => rfl
    | 1, _ => rfl
    | 2, _ => rfl
    | 3, _ => rfl
    | 4, _ => rfl
    | 5, _ => rfl
    | 6, _ => rfl
    | 7, _ => rfl
    | 8, _ => rfl
  · rw [Array.getElem?_eq_none (by omega), Array.getElem?_eq_none (by simp; omega)]

/-- The nine cells of a point, as one value. -/
def nineOf (f : Nat → Int) : Array Value := #[.int .u64 (f 0), .int .u64 (f 1), .int .u64 (f 2), .int .u64 (f 3), .int .u64 (f 4), .int .u64 (f 5), .int .u64 (f 6), .int .u64 (f 7), .int .u64 (f 8)]

theorem below_drewN {B : Nat} {a w : World} (h : Below B a w) (n : Nat) : Below B a (w.drewN n) := h.trans ⟨rfl, rfl, rfl, Nat.le_refl _, fun _ _ => rfl⟩

theorem three_sets (w : World) (X : Obj) (F : Array Value) (n a b c : Nat) (v0 v1 v2 : Value) :
    ((((((w.alloc X).alloc (.cells F 29)).drewN (n + 1)).setCell ⟨w.heap.size + 1, a, none⟩ v0).setCell ⟨w.heap.size + 1, b, none⟩ v1).setCell ⟨w.heap.size + 1, c, none⟩ v2).drew.drew =
      ((w.alloc X).alloc (.cells (((F.setIfInBounds a v0).setIfInBounds b v1).setIfInBounds c v2) 29)).drewN (n + 3) := by
  have e : w.heap.size + 1 = (w.alloc X).heap.size := by simp
  have s : ∀ (G : Array Value) (q x : Nat) (v : Value), (((w.alloc X).alloc (.cells G 29)).drewN q).setCell ⟨w.heap.size + 1, x, none⟩ v = ((w.alloc X).alloc (.cells (G.setIfInBounds x v) 29)).drewN q := by
    intro G q x v
    have h := World.setCell_alloc_at (w := w.alloc X) G 29 (w.heap.size + 1) x v e
    have h2 : (((w.alloc X).alloc (.cells G 29)).drewN q).setCell ⟨w.heap.size + 1, x, none⟩ v = (((w.alloc X).alloc (.cells G 29)).setCell ⟨w.heap.size + 1, x, none⟩ v).drewN q := rfl
    rw [h2, h]
  rw [s, s, s]
  rfl

set_option maxHeartbeats 1000000 in
set_option maxRecDepth 100000 in
theorem lookup_any (g : Nat) (A : Array Value) (T : Nat → Int) (i : Int) (w : World) (hg : w.heap[g]? = some (.cells A 30 (0, 0))) (hA : ∀ p, p < 144 → A[p]? = some (.int .u64 (T p)))
    (hTb : ∀ p, p < 144 → 0 ≤ T p ∧ T p < 18446744073709551616) (hi0 : 0 ≤ i) (hi1 : i < 18446744073709551616) :
    Calls Yba.prog 5 #[.pointer (some ⟨g, 0, none⟩), .int .u64 i] w fun e w' => e = .returned (.agg (nineOf (acc T i 16))) ∧ Below w.heap.size w w' := by
  obtain ⟨Z, hZ, hz29⟩ : ∃ Z : Array Value, (Z.size = 9 ∧ ∀ p, p < 9 → Z[p]? = some (.int .u64 0)) ∧ ∀ w, (zeroValue 29).run Yba.prog w = .ok (.agg Z) w := ⟨_, ⟨by simp, fun p hp => by simp [hp]⟩, zero29⟩
  have hgs : g < w.heap.size := (Array.getElem?_eq_some_iff.1 hg).1
  have hT : ∀ p, p < 144 → w.cell? ⟨g, p, none⟩ = some (.int .u64 (T p)) := fun p hp => by rw [cell_of_row w g p A 30 (0, 0) hg]; exact hA p hp
  clear hA hg
  go_enter Yba.func5, Yba.ntmps5
  go_wp2
  go_loopw [10] (fun i' wr => ∃ k n : Nat, ∃ F : Array Value, k ≤ 16 ∧ i' = .int .i64 k ∧ F.size = 9 ∧ (∀ p, p < 9 → F[p]? = some (.int .u64 (acc T i k p))) ∧ wr = ((w.alloc (.cells Z 29)).alloc (.cells F 29)).drewN n) (fun i' _ => 16 - (intOf i').toNat)
  case atStart => exact ⟨0, 0, Z, by omega, rfl, hZ.1, fun p hp => by rw [hZ.2 p hp]; simp [acc, Int.not_lt.2 hi0], rfl⟩
  case round =>
    obtain ⟨k, n, F, hk, rfl, hF, hFa, rfl⟩ := hrel
    by_cases hlt : k < 16
    · clear hZ hz29
      go_wp2
      generalize hmk : IntKind.u64.wrap (bits .or .u64 (bits .xor .u64 (k : Int) i) (IntKind.u64.wrap (-bits .xor .u64 (k : Int) i)) / 9223372036854775808 - 1) = mk
      generalize bits .or .u64 (bits .xor .u64 (k : Int) i) (IntKind.u64.wrap (-bits .xor .u64 (k : Int) i)) = orr
      generalize bits .xor .u64 (k : Int) i = xorr
      have HM : Hid (mk = if (k : Int) = i then 18446744073709551615 else 0) := hmk.symm.trans (mask_eq k i hlt hi0 hi1)
      clear hmk
      go_loopw [23] (fun l' wr => ∃ l n : Nat, ∃ F : Array Value, l ≤ 3 ∧ l' = .int .i64 l ∧ F.size = 9 ∧ (∀ p, p < 9 → F[p]? = some (.int .u64 (mid T i k l p))) ∧ wr = ((w.alloc (.cells Z 29)).alloc (.cells F 29)).drewN n) (fun l' _ => 3 - (intOf l').toNat)
      case atStart => exact ⟨0, n, F, by omega, rfl, hF, fun p hp => by rw [hFa p hp]; simp [mid], rfl⟩
      case round =>
        clear hF hFa F
        obtain ⟨l, n2, F, hl, rfl, hF, hFa, rfl⟩ := hrel
        by_cases hlt2 : l < 3
        · have q0 := hFa l (by omega)
          have q1 := hFa (3 + l) (by omega)
          have q2 := hFa (6 + l) (by omega)
          have t0 := hT (k * 9 + l) (by omega)
          have t1 := hT (k * 9 + 3 + l) (by omega)
          have t2 := hT (k * 9 + 6 + l) (by omega)
          have HN : Hid (∀ p, p < 9 → (((F.setIfInBounds l (.int .u64 (bits .or .u64 (mid T i k l l) (bits .and .u64 (T (k * 9 + l)) mk)))).setIfInBounds (3 + l) (.int .u64 (bits .or .u64 (mid T i k l (3 + l)) (bits .and .u64 (T (k * 9 + 3 + l)) mk)))).setIfInBounds (6 + l)
      (.int .u64 (bits .or .u64 (mid T i k l (6 + l)) (bits .and .u64 (T (k * 9 + 6 + l)) mk))))[p]? = some (.int .u64 (mid T i k (l + 1) p))) := mid_step T hTb i k l hi0 hlt hlt2 mk HM.out F hF hFa
          clear hFa hT hTb
          go_wp2
          go_region
          all_goals go_wp2
          all_goals go_region
          all_goals go_wp2
          all_goals go_region
          all_goals go_wp2
          go_roundw
          case rel => exact ⟨l + 1, n2 + 3, _, by omega, by go_num, by simp [hF], HN.out, three_sets w _ F n2 l (3 + l) (6 + l) _ _ _⟩
          case measure => simp [intOf]; omega
        · have hl3 : l = 3 := by omega
          subst hl3
          go_wp2
          go_roundw
          case rel => exact ⟨k + 1, n2, F, by omega, by go_num, hF, fun p hp => by rw [hFa p hp]; unfold mid; rw [if_pos (by omega)], rfl⟩
          case measure => simp [intOf]; omega
    · have hk16 : k = 16 := by omega
      subst hk16
      obtain rfl := nine F (acc T i 16) hF hFa
      obtain rfl := nine Z (fun _ => 0) hZ.1 hZ.2
      clear hFa hF hZ hz29 hT
      go_wp2
      refine bodyPost_ret (v := .agg (nineOf (acc T i 16))) (by simp [results, Yba.results5, go_sem, nineOf]) rfl ⟨rfl, ?_⟩
      iterate 9 (refine Below.setCell (B := w.heap.size) ?_ (by exact Nat.le_refl w.heap.size) _)
      exact below_drewN (((Below.refl _ _).alloc (Nat.le_refl _) _).alloc (by simp) _) _

end Go.Proofs.Ybulkdhzy
