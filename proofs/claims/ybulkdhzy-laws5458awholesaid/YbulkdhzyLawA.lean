import Derived.Test.YbulkdhzyRefl
namespace Go.Proofs.Ybulkdhzy
open Go.RowKit
set_option linter.unusedVariables false

theorem zero30 (w : World) : (zeroValue 30).run Yba.prog w = .ok (.agg (Array.replicate 144 (.int .u64 0))) w := by kernel_rfl
theorem Yba.size30 : (Yba.prog.info? 30).map (·.size) = some 144 := by kernel_rfl

/-- One round of the law's copying loop: nine cells are set. -/
theorem nine_sets (F A : Array Value) (T : Nat → Int) (k : Nat) (hk : k < 16) (hF : F.size = 144) (hA : ∀ p, p < 144 → A[p]? = some (.int .u64 (T p))) (hFA : ∀ p, p < k * 9 → F[p]? = A[p]?) :
    ∀ p, p < (k + 1) * 9 → (((((((((F.setIfInBounds (k * 9) (.int .u64 (T (k * 9)))).setIfInBounds (k * 9 + 1) (.int .u64 (T (k * 9 + 1)))).setIfInBounds (k * 9 + 2) (.int .u64 (T (k * 9 + 2)))).setIfInBounds (k * 9 + 3) (.int .u64 (T (k * 9 + 3)))).setIfInBounds (k * 9 + 3 + 1) (.int .u64 (T (k * 9 + 4)))).setIfInBounds (k * 9 + 3 + 2) (.int .u64 (T (k * 9 + 5)))).setIfInBounds (k * 9 + 6) (.int .u64 (T (k * 9 + 6)))).setIfInBounds (k * 9 + 6 + 1) (.int .u64 (T (k * 9 + 7)))).setIfInBounds (k * 9 + 6 + 2) (.int .u64 (T (k * 9 + 8))))[p]? = A[p]? := by
  intro p hp
  simp only [Array.getElem?_setIfInBounds, Array.size_setIfInBounds, hF]
  by_cases h8 : k * 9 + 6 + 2 = p
  · subst h8; rw [if_pos rfl, if_pos (by omega), hA _ (by omega)]
  rw [if_neg h8]
  by_cases h7 : k * 9 + 6 + 1 = p
  · subst h7; rw [if_pos rfl, if_pos (by omega), hA _ (by omega)]
  rw [if_neg h7]
  by_cases h6 : k * 9 + 6 = p
  · subst h6; rw [if_pos rfl, if_pos (by omega), hA _ (by omega)]
  rw [if_neg h6]
  by_cases h5 : k * 9 + 3 + 2 = p
  · subst h5; rw [if_pos rfl, if_pos (by omega), hA _ (by omega)]
  rw [if_neg h5]
  by_cases h4 : k * 9 + 3 + 1 = p
  · subst h4; rw [if_pos rfl, if_pos (by omega), hA _ (by omega)]
  rw [if_neg h4]
  by_cases h3 : k * 9 + 3 = p
  · subst h3; rw [if_pos rfl, if_pos (by omega), hA _ (by omega)]
  rw [if_neg h3]
  by_cases h2 : k * 9 + 2 = p
  · subst h2; rw [if_pos rfl, if_pos (by omega), hA _ (by omega)]
  rw [if_neg h2]
  by_cases h1 : k * 9 + 1 = p
  · subst h1; rw [if_pos rfl, if_pos (by omega), hA _ (by omega)]
  rw [if_neg h1]
  by_cases h0 : k * 9 = p
  · subst h0; rw [if_pos rfl, if_pos (by omega), hA _ (by omega)]
  rw [if_neg h0]
  exact hFA p (by omega)

theorem tbl_row (w w4 : World) (F : Array Value)
    (hb4 : Below (((w.alloc (.cells F 26)).alloc (.cells F 30)).alloc (.cells F 30)).heap.size (((w.alloc (.cells F 26)).alloc (.cells F 30)).alloc (.cells F 30)) w4) (o1 o2 : Obj) :
    ((w4.alloc o1).alloc o2).heap[w.heap.size + 1]? = some (.cells F 30 (0, 0)) := by
  have h := hb4.size
  simp at h
  rw [Below.heap_alloc _ _ _ (by simp; omega), Below.heap_alloc _ _ _ (by omega), hb4.block _ (by simp), Below.heap_alloc _ _ _ (by simp), heap_alloc2_new]

theorem saved_row (w w4 : World) (F : Array Value)
    (hb4 : Below (((w.alloc (.cells F 26)).alloc (.cells F 30)).alloc (.cells F 30)).heap.size (((w.alloc (.cells F 26)).alloc (.cells F 30)).alloc (.cells F 30)) w4) (o1 o2 : Obj) :
    ((w4.alloc o1).alloc o2).heap[w.heap.size + 1 + 1]? = some (.cells F 30 (0, 0)) := by
  have h := hb4.size
  simp at h
  rw [Below.heap_alloc _ _ _ (by simp; omega), Below.heap_alloc _ _ _ (by omega), hb4.block _ (by simp)]
  have := heap_alloc_new ((w.alloc (.cells F 26)).alloc (.cells F 30)) (.cells F 30)
  simpa using this

theorem saved_cell (w w4 : World) (F : Array Value) (T : Nat → Int) (hA : ∀ p, p < 144 → F[p]? = some (.int .u64 (T p)))
    (hb4 : Below (((w.alloc (.cells F 26)).alloc (.cells F 30)).alloc (.cells F 30)).heap.size (((w.alloc (.cells F 26)).alloc (.cells F 30)).alloc (.cells F 30)) w4) (p : Nat) (hp : p < 144) :
    w4.cell? ⟨w.heap.size + 1 + 1, p, none⟩ = some (.int .u64 (T p)) := by
  rw [hb4.cell (p := ⟨w.heap.size + 1 + 1, p, none⟩) (by simp)]
  rw [cell_of_row _ _ p F 30 (0, 0) (by have := heap_alloc_new ((w.alloc (.cells F 26)).alloc (.cells F 30)) (.cells F 30); simpa using this)]
  exact hA p hp

set_option maxHeartbeats 1000000 in
set_option maxRecDepth 100000 in
theorem lawA_walk (A : Array Value) (T : Nat → Int) (i : Int) (w : World) (hs : A.size = 144) (hA : ∀ p, p < 144 → A[p]? = some (.int .u64 (T p)))
    (hTb : ∀ p, p < 144 → 0 ≤ T p ∧ T p < 18446744073709551616) (hi0 : 0 ≤ i) (hi1 : i < 18446744073709551616) :
    Calls Yba.prog 3 #[.agg A, .int .u64 i] w fun e w' => e = .returned (.bool true) ∧ Below w.heap.size w w' := by
  obtain ⟨Z, hZ, hz30⟩ : ∃ Z : Array Value, (Z.size = 144) ∧ ∀ w, (zeroValue 30).run Yba.prog w = .ok (.agg Z) w := ⟨_, by simp, zero30⟩
  go_enter Yba.func3, Yba.ntmps3
  go_wp2
  go_loopw [6] (fun i wr => ∃ k : Nat, ∃ F : Array Value, k ≤ 16 ∧ i = .int .i64 k ∧ F.size = 144 ∧ (∀ p, p < k * 9 → F[p]? = A[p]?) ∧ wr = (w.alloc (.cells A 26)).alloc (.cells F 30)) (fun i _ => 16 - (intOf i).toNat)
  case atStart => exact ⟨0, Z, by omega, rfl, hZ, fun p hp => by omega, rfl⟩
  case round =>
    obtain ⟨k, F, hk, rfl, hF, hFA, rfl⟩ := hrel
    by_cases hlt : k < 16
    · have a0 := hA (k * 9) (by omega)
      have a1 := hA (k * 9 + 1) (by omega)
      have a2 := hA (k * 9 + 2) (by omega)
      have a3 := hA (k * 9 + 3) (by omega)
      have a4 := hA (k * 9 + 4) (by omega)
      have a5 := hA (k * 9 + 5) (by omega)
      have a6 := hA (k * 9 + 6) (by omega)
      have a7 := hA (k * 9 + 7) (by omega)
      have a8 := hA (k * 9 + 8) (by omega)
      have ex : ∀ p, p < 144 → ∃ v, F[p]? = some v := fun p hp => ⟨_, Array.getElem?_eq_getElem (by omega)⟩
      obtain ⟨f0, g0⟩ := ex (k * 9) (by omega)
      obtain ⟨f1, g1⟩ := ex (k * 9 + 1) (by omega)
      obtain ⟨f2, g2⟩ := ex (k * 9 + 2) (by omega)
      obtain ⟨f3, g3⟩ := ex (k * 9 + 3) (by omega)
      obtain ⟨f4, g4⟩ := ex (k * 9 + 3 + 1) (by omega)
      obtain ⟨f5, g5⟩ := ex (k * 9 + 3 + 2) (by omega)
      obtain ⟨f6, g6⟩ := ex (k * 9 + 6) (by omega)
      obtain ⟨f7, g7⟩ := ex (k * 9 + 6 + 1) (by omega)
      obtain ⟨f8, g8⟩ := ex (k * 9 + 6 + 2) (by omega)
      clear ex
      have n03 : ∀ (G : Array Value) (v : Value), (G.setIfInBounds (k * 9) v)[k * 9 + 3]? = G[k * 9 + 3]? := fun G v => Array.getElem?_setIfInBounds_ne (by omega)
      have n04 : ∀ (G : Array Value) (v : Value), (G.setIfInBounds (k * 9) v)[k * 9 + 3 + 1]? = G[k * 9 + 3 + 1]? := fun G v => Array.getElem?_setIfInBounds_ne (by omega)
      have n05 : ∀ (G : Array Value) (v : Value), (G.setIfInBounds (k * 9) v)[k * 9 + 3 + 2]? = G[k * 9 + 3 + 2]? := fun G v => Array.getElem?_setIfInBounds_ne (by omega)
      have n06 : ∀ (G : Array Value) (v : Value), (G.setIfInBounds (k * 9) v)[k * 9 + 6]? = G[k * 9 + 6]? := fun G v => Array.getElem?_setIfInBounds_ne (by omega)
      have n07 : ∀ (G : Array Value) (v : Value), (G.setIfInBounds (k * 9) v)[k * 9 + 6 + 1]? = G[k * 9 + 6 + 1]? := fun G v => Array.getElem?_setIfInBounds_ne (by omega)
      have n08 : ∀ (G : Array Value) (v : Value), (G.setIfInBounds (k * 9) v)[k * 9 + 6 + 2]? = G[k * 9 + 6 + 2]? := fun G v => Array.getElem?_setIfInBounds_ne (by omega)
      have n13 : ∀ (G : Array Value) (v : Value), (G.setIfInBounds (k * 9 + 1) v)[k * 9 + 3]? = G[k * 9 + 3]? := fun G v => Array.getElem?_setIfInBounds_ne (by omega)
      have n14 : ∀ (G : Array Value) (v : Value), (G.setIfInBounds (k * 9 + 1) v)[k * 9 + 3 + 1]? = G[k * 9 + 3 + 1]? := fun G v => Array.getElem?_setIfInBounds_ne (by omega)
      have n15 : ∀ (G : Array Value) (v : Value), (G.setIfInBounds (k * 9 + 1) v)[k * 9 + 3 + 2]? = G[k * 9 + 3 + 2]? := fun G v => Array.getElem?_setIfInBounds_ne (by omega)
      have n16 : ∀ (G : Array Value) (v : Value), (G.setIfInBounds (k * 9 + 1) v)[k * 9 + 6]? = G[k * 9 + 6]? := fun G v => Array.getElem?_setIfInBounds_ne (by omega)
      have n17 : ∀ (G : Array Value) (v : Value), (G.setIfInBounds (k * 9 + 1) v)[k * 9 + 6 + 1]? = G[k * 9 + 6 + 1]? := fun G v => Array.getElem?_setIfInBounds_ne (by omega)
      have n18 : ∀ (G : Array Value) (v : Value), (G.setIfInBounds (k * 9 + 1) v)[k * 9 + 6 + 2]? = G[k * 9 + 6 + 2]? := fun G v => Array.getElem?_setIfInBounds_ne (by omega)
      have n23 : ∀ (G : Array Value) (v : Value), (G.setIfInBounds (k * 9 + 2) v)[k * 9 + 3]? = G[k * 9 + 3]? := fun G v => Array.getElem?_setIfInBounds_ne (by omega)
      have n24 : ∀ (G : Array Value) (v : Value), (G.setIfInBounds (k * 9 + 2) v)[k * 9 + 3 + 1]? = G[k * 9 + 3 + 1]? := fun G v => Array.getElem?_setIfInBounds_ne (by omega)
      have n25 : ∀ (G : Array Value) (v : Value), (G.setIfInBounds (k * 9 + 2) v)[k * 9 + 3 + 2]? = G[k * 9 + 3 + 2]? := fun G v => Array.getElem?_setIfInBounds_ne (by omega)
      have n26 : ∀ (G : Array Value) (v : Value), (G.setIfInBounds (k * 9 + 2) v)[k * 9 + 6]? = G[k * 9 + 6]? := fun G v => Array.getElem?_setIfInBounds_ne (by omega)
      have n27 : ∀ (G : Array Value) (v : Value), (G.setIfInBounds (k * 9 + 2) v)[k * 9 + 6 + 1]? = G[k * 9 + 6 + 1]? := fun G v => Array.getElem?_setIfInBounds_ne (by omega)
      have n28 : ∀ (G : Array Value) (v : Value), (G.setIfInBounds (k * 9 + 2) v)[k * 9 + 6 + 2]? = G[k * 9 + 6 + 2]? := fun G v => Array.getElem?_setIfInBounds_ne (by omega)
      have n34 : ∀ (G : Array Value) (v : Value), (G.setIfInBounds (k * 9 + 3) v)[k * 9 + 3 + 1]? = G[k * 9 + 3 + 1]? := fun G v => Array.getElem?_setIfInBounds_ne (by omega)
      have n35 : ∀ (G : Array Value) (v : Value), (G.setIfInBounds (k * 9 + 3) v)[k * 9 + 3 + 2]? = G[k * 9 + 3 + 2]? := fun G v => Array.getElem?_setIfInBounds_ne (by omega)
      have n36 : ∀ (G : Array Value) (v : Value), (G.setIfInBounds (k * 9 + 3) v)[k * 9 + 6]? = G[k * 9 + 6]? := fun G v => Array.getElem?_setIfInBounds_ne (by omega)
      have n37 : ∀ (G : Array Value) (v : Value), (G.setIfInBounds (k * 9 + 3) v)[k * 9 + 6 + 1]? = G[k * 9 + 6 + 1]? := fun G v => Array.getElem?_setIfInBounds_ne (by omega)
      have n38 : ∀ (G : Array Value) (v : Value), (G.setIfInBounds (k * 9 + 3) v)[k * 9 + 6 + 2]? = G[k * 9 + 6 + 2]? := fun G v => Array.getElem?_setIfInBounds_ne (by omega)
      have n45 : ∀ (G : Array Value) (v : Value), (G.setIfInBounds (k * 9 + 3 + 1) v)[k * 9 + 3 + 2]? = G[k * 9 + 3 + 2]? := fun G v => Array.getElem?_setIfInBounds_ne (by omega)
      have n46 : ∀ (G : Array Value) (v : Value), (G.setIfInBounds (k * 9 + 3 + 1) v)[k * 9 + 6]? = G[k * 9 + 6]? := fun G v => Array.getElem?_setIfInBounds_ne (by omega)
      have n47 : ∀ (G : Array Value) (v : Value), (G.setIfInBounds (k * 9 + 3 + 1) v)[k * 9 + 6 + 1]? = G[k * 9 + 6 + 1]? := fun G v => Array.getElem?_setIfInBounds_ne (by omega)
      have n48 : ∀ (G : Array Value) (v : Value), (G.setIfInBounds (k * 9 + 3 + 1) v)[k * 9 + 6 + 2]? = G[k * 9 + 6 + 2]? := fun G v => Array.getElem?_setIfInBounds_ne (by omega)
      have n56 : ∀ (G : Array Value) (v : Value), (G.setIfInBounds (k * 9 + 3 + 2) v)[k * 9 + 6]? = G[k * 9 + 6]? := fun G v => Array.getElem?_setIfInBounds_ne (by omega)
      have n57 : ∀ (G : Array Value) (v : Value), (G.setIfInBounds (k * 9 + 3 + 2) v)[k * 9 + 6 + 1]? = G[k * 9 + 6 + 1]? := fun G v => Array.getElem?_setIfInBounds_ne (by omega)
      have n58 : ∀ (G : Array Value) (v : Value), (G.setIfInBounds (k * 9 + 3 + 2) v)[k * 9 + 6 + 2]? = G[k * 9 + 6 + 2]? := fun G v => Array.getElem?_setIfInBounds_ne (by omega)
      have n67 : ∀ (G : Array Value) (v : Value), (G.setIfInBounds (k * 9 + 6) v)[k * 9 + 6 + 1]? = G[k * 9 + 6 + 1]? := fun G v => Array.getElem?_setIfInBounds_ne (by omega)
      have n68 : ∀ (G : Array Value) (v : Value), (G.setIfInBounds (k * 9 + 6) v)[k * 9 + 6 + 2]? = G[k * 9 + 6 + 2]? := fun G v => Array.getElem?_setIfInBounds_ne (by omega)
      have n78 : ∀ (G : Array Value) (v : Value), (G.setIfInBounds (k * 9 + 6 + 1) v)[k * 9 + 6 + 2]? = G[k * 9 + 6 + 2]? := fun G v => Array.getElem?_setIfInBounds_ne (by omega)
      have HN := nine_sets F A T k hlt hF hA hFA
      have HN' : Hid (∀ p, p < (k + 1) * 9 → (((((((((F.setIfInBounds (k * 9) (.int .u64 (T (k * 9)))).setIfInBounds (k * 9 + 1) (.int .u64 (T (k * 9 + 1)))).setIfInBounds (k * 9 + 2) (.int .u64 (T (k * 9 + 2)))).setIfInBounds (k * 9 + 3) (.int .u64 (T (k * 9 + 3)))).setIfInBounds (k * 9 + 3 + 1) (.int .u64 (T (k * 9 + 4)))).setIfInBounds (k * 9 + 3 + 2) (.int .u64 (T (k * 9 + 5)))).setIfInBounds (k * 9 + 6) (.int .u64 (T (k * 9 + 6)))).setIfInBounds (k * 9 + 6 + 1) (.int .u64 (T (k * 9 + 7)))).setIfInBounds (k * 9 + 6 + 2) (.int .u64 (T (k * 9 + 8))))[p]? = A[p]?) := HN
      clear hA hFA hTb HN
      go_wp2
      go_roundw
      case rel => exact ⟨k + 1, _, by omega, by go_num, by simp [hF], HN'.out, rfl⟩
      case measure => simp [intOf]; omega
    · have hk16 : k = 16 := by omega
      subst hk16
      have hFe : F = A := by
        apply Array.ext_getElem?
        intro p
        by_cases hp : p < 144
        · exact hFA p (by omega)
        · rw [Array.getElem?_eq_none (by omega), Array.getElem?_eq_none (by omega)]
      subst hFe
      clear hFA hF
      have hall : F.all (·.oneCell') = true := by
        rw [Array.all_eq_true]
        intro p hp
        have := hA p (by omega)
        rw [Array.getElem?_eq_getElem hp] at this
        rw [Option.some.inj this]
        rfl
      go_wp2_with (first | (refine wpList_load_row rfl 30 (.tmp 5) rfl (w.heap.size + 1) rfl 30 F (0, 0) _ (heap_alloc2_new _ _ _) Yba.underlying30 rfl (by rw [hs]; exact Yba.size30) ?_) | (refine wpList_store_new _ rfl 30 (.tmp 7) (.tmp 35) rfl rfl Z F _ (by simp) rfl rfl (by rw [hs]; exact Yba.size30) (by omega) hall ?_))
      have hlk := lookup_any (w.heap.size + 1) F T i (((w.alloc (.cells F 26)).alloc (.cells F 30)).alloc (.cells F 30)) (by rw [Below.heap_alloc _ _ _ (by simp), heap_alloc2_new]) hA hTb hi0 hi1
      clear hi1 hTb
      obtain ⟨j, rfl⟩ := Int.eq_ofNat_of_zero_le hi0
      have hz29 : ∀ w, (zeroValue 29).run Yba.prog w = .ok (.agg #[.int .u64 0, .int .u64 0, .int .u64 0, .int .u64 0, .int .u64 0, .int .u64 0, .int .u64 0, .int .u64 0, .int .u64 0]) w := zero29
      by_cases hj : j < 16
      · have hR : nineOf (acc T (j : Int) 16) = #[.int .u64 (T (j * 9)), .int .u64 (T (j * 9 + 1)), .int .u64 (T (j * 9 + 2)), .int .u64 (T (j * 9 + 3)), .int .u64 (T (j * 9 + 4)), .int .u64 (T (j * 9 + 5)), .int .u64 (T (j * 9 + 6)), .int .u64 (T (j * 9 + 7)), .int .u64 (T (j * 9 + 8))] := by
          have hj' : (j : Int) < 16 := by omega
          simp [nineOf, acc, hj']
        rw [hR] at hlk
        clear hR
        refine hlk.mono ?_
        rintro e w4 ⟨rfl, hb4⟩
        clear hlk
        have c0 : w4.cell? ⟨w.heap.size + 1 + 1, j * 9, none⟩ = some (.int .u64 (T (j * 9))) := saved_cell w w4 F T hA hb4 _ (by omega)
        have c1 : w4.cell? ⟨w.heap.size + 1 + 1, j * 9 + 1, none⟩ = some (.int .u64 (T (j * 9 + 1))) := saved_cell w w4 F T hA hb4 _ (by omega)
        have c2 : w4.cell? ⟨w.heap.size + 1 + 1, j * 9 + 2, none⟩ = some (.int .u64 (T (j * 9 + 2))) := saved_cell w w4 F T hA hb4 _ (by omega)
        have c3 : w4.cell? ⟨w.heap.size + 1 + 1, j * 9 + 3, none⟩ = some (.int .u64 (T (j * 9 + 3))) := saved_cell w w4 F T hA hb4 _ (by omega)
        have c4 : w4.cell? ⟨w.heap.size + 1 + 1, j * 9 + 4, none⟩ = some (.int .u64 (T (j * 9 + 4))) := saved_cell w w4 F T hA hb4 _ (by omega)
        have c5 : w4.cell? ⟨w.heap.size + 1 + 1, j * 9 + 5, none⟩ = some (.int .u64 (T (j * 9 + 5))) := saved_cell w w4 F T hA hb4 _ (by omega)
        have c6 : w4.cell? ⟨w.heap.size + 1 + 1, j * 9 + 6, none⟩ = some (.int .u64 (T (j * 9 + 6))) := saved_cell w w4 F T hA hb4 _ (by omega)
        have c7 : w4.cell? ⟨w.heap.size + 1 + 1, j * 9 + 7, none⟩ = some (.int .u64 (T (j * 9 + 7))) := saved_cell w w4 F T hA hb4 _ (by omega)
        have c8 : w4.cell? ⟨w.heap.size + 1 + 1, j * 9 + 8, none⟩ = some (.int .u64 (T (j * 9 + 8))) := saved_cell w w4 F T hA hb4 _ (by omega)
        have hq : ∀ (d : Nat) (w : World), (Op.equalIn (d + 3) 29 (.agg #[.int .u64 (T (j * 9)), .int .u64 (T (j * 9 + 1)), .int .u64 (T (j * 9 + 2)), .int .u64 (T (j * 9 + 3)), .int .u64 (T (j * 9 + 4)), .int .u64 (T (j * 9 + 5)), .int .u64 (T (j * 9 + 6)), .int .u64 (T (j * 9 + 7)), .int .u64 (T (j * 9 + 8))]) (.agg #[.int .u64 (T (j * 9)), .int .u64 (T (j * 9 + 1)), .int .u64 (T (j * 9 + 2)), .int .u64 (T (j * 9 + 3)), .int .u64 (T (j * 9 + 4)), .int .u64 (T (j * 9 + 5)), .int .u64 (T (j * 9 + 6)), .int .u64 (T (j * 9 + 7)), .int .u64 (T (j * 9 + 8))])).run Yba.prog w = .ok true w := fun d w => refl29 (fun p => T (j * 9 + p)) d w
        have hq2 := hq 9997
        have hsz4 : w.heap.size + 1 + 1 < w4.heap.size := by have := hb4.size; simp at this; omega
        have hsz5 : w.heap.size + 1 < w4.heap.size := by omega
        have hsz6 : w.heap.size < w4.heap.size := by omega
        have hq30 : ∀ w, (Op.equalIn 10000 30 (.agg F) (.agg F)).run Yba.prog w = .ok true w := fun w => refl30 9996 F T hA hs w
        have t5 : ∀ o1 o2, ((w4.alloc o1).alloc o2).heap[w.heap.size + 1]? = some (.cells F 30 (0, 0)) := fun o1 o2 => tbl_row w w4 F hb4 o1 o2
        have t7 : ∀ o1 o2, ((w4.alloc o1).alloc o2).heap[w.heap.size + 1 + 1]? = some (.cells F 30 (0, 0)) := fun o1 o2 => saved_row w w4 F hb4 o1 o2
        have hbw : Below w.heap.size w w4 := ((((Below.refl _ _).alloc (Nat.le_refl _) _).alloc (by simp) _).alloc (by simp; omega) _).trans (hb4.mono (by simp; omega))
        clear hq hA hb4
        go_wp2_with (first | (refine wpList_load_row rfl 30 (.tmp 5) rfl (w.heap.size + 1) rfl 30 F (0, 0) _ (t5 _ _) Yba.underlying30 rfl (by rw [hs]; exact Yba.size30) ?_) | (refine wpList_load_row rfl 30 (.tmp 7) rfl (w.heap.size + 1 + 1) rfl 30 F (0, 0) _ (t7 _ _) Yba.underlying30 rfl (by rw [hs]; exact Yba.size30) ?_))
        go_ret
        exact ⟨rfl, (hbw.alloc (by omega) _).alloc (by simp; omega) _⟩
      · have hR : nineOf (acc T (j : Int) 16) = #[.int .u64 0, .int .u64 0, .int .u64 0, .int .u64 0, .int .u64 0, .int .u64 0, .int .u64 0, .int .u64 0, .int .u64 0] := by
          have hj' : ¬ (j : Int) < 16 := by omega
          simp [nineOf, acc, hj']
        have hj' : ¬ (j : Int) < 16 := by omega
        rw [hR] at hlk
        clear hR
        refine hlk.mono ?_
        rintro e w4 ⟨rfl, hb4⟩
        clear hlk
        have hq : ∀ (d : Nat) (w : World), (Op.equalIn (d + 3) 29 (.agg #[.int .u64 0, .int .u64 0, .int .u64 0, .int .u64 0, .int .u64 0, .int .u64 0, .int .u64 0, .int .u64 0, .int .u64 0]) (.agg #[.int .u64 0, .int .u64 0, .int .u64 0, .int .u64 0, .int .u64 0, .int .u64 0, .int .u64 0, .int .u64 0, .int .u64 0])).run Yba.prog w = .ok true w := fun d w => refl29 (fun _ => 0) d w
        have hq2 := hq 9997
        have hsz4 : w.heap.size + 1 + 1 < w4.heap.size := by have := hb4.size; simp at this; omega
        have hsz5 : w.heap.size + 1 < w4.heap.size := by omega
        have hsz6 : w.heap.size < w4.heap.size := by omega
        have hq30 : ∀ w, (Op.equalIn 10000 30 (.agg F) (.agg F)).run Yba.prog w = .ok true w := fun w => refl30 9996 F T hA hs w
        have t5 : ∀ o1 o2, ((w4.alloc o1).alloc o2).heap[w.heap.size + 1]? = some (.cells F 30 (0, 0)) := fun o1 o2 => tbl_row w w4 F hb4 o1 o2
        have t7 : ∀ o1 o2, ((w4.alloc o1).alloc o2).heap[w.heap.size + 1 + 1]? = some (.cells F 30 (0, 0)) := fun o1 o2 => saved_row w w4 F hb4 o1 o2
        have hbw : Below w.heap.size w w4 := ((((Below.refl _ _).alloc (Nat.le_refl _) _).alloc (by simp) _).alloc (by simp; omega) _).trans (hb4.mono (by simp; omega))
        clear hq hA hb4
        go_wp2_with (first | (refine wpList_load_row rfl 30 (.tmp 5) rfl (w.heap.size + 1) rfl 30 F (0, 0) _ (t5 _ _) Yba.underlying30 rfl (by rw [hs]; exact Yba.size30) ?_) | (refine wpList_load_row rfl 30 (.tmp 7) rfl (w.heap.size + 1 + 1) rfl 30 F (0, 0) _ (t7 _ _) Yba.underlying30 rfl (by rw [hs]; exact Yba.size30) ?_))
        go_ret
        exact ⟨rfl, (hbw.alloc (by omega) _).alloc (by simp; omega) _⟩

end Go.Proofs.Ybulkdhzy
