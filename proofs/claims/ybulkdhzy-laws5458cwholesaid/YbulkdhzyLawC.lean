import Derived.Test.YbulkdhzyAddData
import Derived.WalkLawsBesides
namespace Go.Proofs.Ybulkdhzy
open Go.RowKit
set_option linter.unusedVariables false

theorem set_step (F : Array Value) (L : List Int) (k : Nat) (v : Int) (hk : k < F.size) (hFa : ∀ p, p < k → F[p]? = some (.int .u8 (L.getD p 0))) (hv : v = L.getD k 0) :
    ∀ p, p < k + 1 → (F.setIfInBounds k (.int .u8 v))[p]? = some (.int .u8 (L.getD p 0)) := by
  intro p hp
  rw [Array.getElem?_setIfInBounds]
  by_cases h : k = p
  · subst h; rw [if_pos rfl, if_pos hk, hv]
  · rw [if_neg h]; exact hFa p (by omega)

theorem below_drewN {B : Nat} {a w : World} (h : Below B a w) (n : Nat) : Below B a (w.drewN n) := h.trans ⟨rfl, rfl, rfl, Nat.le_refl _, fun _ _ => rfl⟩

def adX (seq typ n : Int) (p : Nat) : Int := (adBytes seq typ n).getD p 0

theorem want_all (F : Array Value) (seq typ n : Int) (hF : F.size = 13) (hFa : ∀ p, p < 8 → F[p]? = some (.int .u8 ((word8 seq).getD p 0))) :
    ∀ p, p < 13 → (((((F.setIfInBounds 8 (.int .u8 typ)).setIfInBounds 9 (.int .u8 3)).setIfInBounds 10 (.int .u8 3)).setIfInBounds 11 (.int .u8 (n / 256 % 256))).setIfInBounds 12 (.int .u8 (n % 256)))[p]? = some (.int .u8 (adX seq typ n p)) := by
  have e11 : n / 256 % 256 = n % 65536 / 256 := by omega
  have e12 : n % 256 = n % 65536 % 256 := by omega
  rw [e11, e12]
  intro p hp
  by_cases h8 : p < 8
  · have h := hFa p h8
    have hx : adX seq typ n p = (word8 seq).getD p 0 := by
      have hl : (word8 seq).length = 8 := rfl
      unfold adX adBytes
      simp only [List.getD]
      rw [List.getElem?_append_left (by omega)]
    rw [hx, ← h]
    simp only [Array.getElem?_setIfInBounds]
    rw [if_neg (by omega), if_neg (by omega), if_neg (by omega), if_neg (by omega), if_neg (by omega)]
  · have hcase : p = 8 ∨ p = 9 ∨ p = 10 ∨ p = 11 ∨ p = 12 := by omega
    rcases hcase with rfl | rfl | rfl | rfl | rfl <;> simp [hF, adX, adBytes, word8]

set_option maxHeartbeats 2000000 in
set_option maxRecDepth 100000 in
theorem lawC_walk (seq typ n : Int) (w : World) (hs0 : 0 ≤ seq) (hs1 : seq < 18446744073709551616) (ht0 : 0 ≤ typ) (ht1 : typ < 256) (hn0 : -9223372036854775808 ≤ n) (hn1 : n ≤ 9223372036854775807) :
    Calls Yba.prog 4 #[.int .u64 seq, .int .u8 typ, .int .i64 n] w fun e w' => e = .returned (.bool true) ∧ Below w.heap.size w w' := by
  go_enter Yba.func4, Yba.ntmps4
  go_wp2_with fail
  refine (addData w.heap.size seq typ n _ ?hc hs0 hs1).mono ?_
  case hc => simp
  rintro e w1 ⟨rfl, hown, hb1⟩
  have hB : (w.alloc (.cells #[.int .i32 0, .int .u32 0, .nilIface, .slice none 0 0, .int .u64 seq, .nilIface] 48)).heap.size = w.heap.size + 1 := by simp
  have c2 : w1.cell? ⟨w.heap.size, 2, none⟩ = some .nilIface := (hb1.cell (p := ⟨w.heap.size, 2, none⟩) (by simp)).trans (by simp)
  have c3 : w1.cell? ⟨w.heap.size, 3, none⟩ = some (.slice none 0 0) := (hb1.cell (p := ⟨w.heap.size, 3, none⟩) (by simp)).trans (by simp)
  have c4 : w1.cell? ⟨w.heap.size, 4, none⟩ = some (.int .u64 seq) := (hb1.cell (p := ⟨w.heap.size, 4, none⟩) (by simp)).trans (by simp)
  have c5 : w1.cell? ⟨w.heap.size, 5, none⟩ = some .nilIface := (hb1.cell (p := ⟨w.heap.size, 5, none⟩) (by simp)).trans (by simp)
  have hbw : Below w.heap.size w w1 := ((Below.refl _ _).alloc (Nat.le_refl _) _).trans (hb1.mono (by simp))
  rw [hB] at hown
  clear hb1 hB
  go_wp2
  go_loopw [10] (fun i wr => ∃ k : Nat, ∃ F : Array Value, k ≤ 8 ∧ i = .int .i64 k ∧ F.size = 13 ∧ (∀ p, p < k → F[p]? = some (.int .u8 ((word8 seq).getD p 0))) ∧ wr = w1.alloc (.cells F 51)) (fun i _ => 8 - (intOf i).toNat)
  case atStart => exact ⟨0, _, by omega, rfl, rfl, fun p hp => by omega, rfl⟩
  case round =>
    obtain ⟨k, F, hk, rfl, hF, hFa, rfl⟩ := hrel
    by_cases hlt : k < 8
    · obtain ⟨f, hf⟩ : ∃ f, F[k]? = some f := ⟨_, Array.getElem?_eq_getElem (by omega)⟩
      have hcase : k = 0 ∨ k = 1 ∨ k = 2 ∨ k = 3 ∨ k = 4 ∨ k = 5 ∨ k = 6 ∨ k = 7 := by omega
      rcases hcase with rfl | rfl | rfl | rfl | rfl | rfl | rfl | rfl
      · go_wp2
        go_roundw
        case rel => exact ⟨1, _, by omega, rfl, by simp [hF], set_step F (word8 seq) 0 _ (by omega) hFa rfl, rfl⟩
        case measure => simp [intOf]
      · go_wp2
        go_roundw
        case rel => exact ⟨2, _, by omega, rfl, by simp [hF], set_step F (word8 seq) 1 _ (by omega) hFa rfl, rfl⟩
        case measure => simp [intOf]
      · go_wp2
        go_roundw
        case rel => exact ⟨3, _, by omega, rfl, by simp [hF], set_step F (word8 seq) 2 _ (by omega) hFa rfl, rfl⟩
        case measure => simp [intOf]
      · go_wp2
        go_roundw
        case rel => exact ⟨4, _, by omega, rfl, by simp [hF], set_step F (word8 seq) 3 _ (by omega) hFa rfl, rfl⟩
        case measure => simp [intOf]
      · go_wp2
        go_roundw
        case rel => exact ⟨5, _, by omega, rfl, by simp [hF], set_step F (word8 seq) 4 _ (by omega) hFa rfl, rfl⟩
        case measure => simp [intOf]
      · go_wp2
        go_roundw
        case rel => exact ⟨6, _, by omega, rfl, by simp [hF], set_step F (word8 seq) 5 _ (by omega) hFa rfl, rfl⟩
        case measure => simp [intOf]
      · go_wp2
        go_roundw
        case rel => exact ⟨7, _, by omega, rfl, by simp [hF], set_step F (word8 seq) 6 _ (by omega) hFa rfl, rfl⟩
        case measure => simp [intOf]
      · go_wp2
        go_roundw
        case rel => exact ⟨8, _, by omega, rfl, by simp [hF], set_step F (word8 seq) 7 _ (by omega) hFa rfl, rfl⟩
        case measure => simp [intOf]
    · have hk8 : k = 8 := by omega
      subst hk8
      have ex : ∀ p, p < 13 → ∃ v, F[p]? = some v := fun p hp => ⟨_, Array.getElem?_eq_getElem (by omega)⟩
      obtain ⟨f8, g8⟩ := ex 8 (by omega)
      obtain ⟨f9, g9⟩ := ex 9 (by omega)
      obtain ⟨f10, g10⟩ := ex 10 (by omega)
      obtain ⟨f11, g11⟩ := ex 11 (by omega)
      obtain ⟨f12, g12⟩ := ex 12 (by omega)
      clear ex
      have HF : Hid (∀ p, p < 8 → F[p]? = some (.int .u8 ((word8 seq).getD p 0))) := hFa
      clear hFa
      go_wp2
      have hG0 := want_all F seq typ n hF HF.out
      generalize (((((F.setIfInBounds 8 (.int .u8 typ)).setIfInBounds 9 (.int .u8 3)).setIfInBounds 10 (.int .u8 3)).setIfInBounds 11 (.int .u8 (n / 256 % 256))).setIfInBounds 12 (.int .u8 (n % 256))) = G at hG0 ⊢
      have had : ∀ p, p < 13 → w1.cell? ⟨w.heap.size + 1, p, none⟩ = some (.int .u8 (adX seq typ n p)) := fun p hp => by
        have h13 : (adBytes seq typ n).length = 13 := rfl
        have := hown.cells (g := w.heap.size + 1) rfl p (.int .u8 (adX seq typ n p)) (by simp [adX, List.getD, h13, hp])
        simpa [Addr.add_lit] using this
      have hsz : w.heap.size + 1 < w1.heap.size := (hown.lt _ rfl).2
      clear hown g8 g9 g10 g11 g12 HF c2 c3 c4 c5 hF
      go_loopw [11] (fun i wr => ∃ k q : Nat, k ≤ 13 ∧ i = .int .i64 k ∧ wr = (w1.alloc (.cells G 51)).drewN q) (fun i _ => 13 - (intOf i).toNat)
      case atStart => exact ⟨0, 0, by omega, rfl, rfl⟩
      case round =>
        obtain ⟨k, q, hk, rfl, rfl⟩ := hrel
        by_cases hlt : k < 13
        · have x1 := had k hlt
          have x2 := hG0 k hlt
          clear had hG0
          go_wp2
          go_quiet (fail)
          go_wp2
          go_roundw
          case rel => exact ⟨k + 1, _, by omega, by go_num, rfl⟩
          case measure => simp [intOf]; omega
        · go_wp2
          go_ret
          exact ⟨rfl, below_drewN (hbw.alloc hbw.size _) _⟩

end Go.Proofs.Ybulkdhzy
