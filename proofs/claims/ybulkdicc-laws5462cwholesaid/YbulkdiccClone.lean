import Derived.Test.YbulkdiccRow
import Derived.WalkSpells
namespace Go.Proofs.Ybulkdicc
open Go.RowKit
set_option linter.unusedVariables false

theorem Yba.info50 : (Yba.prog.info? 50).map (fun i => (i.zero, i.size, i.bytes)) = some (some (.agg #[.int .i64 0, .int .i64 0, .nilIface]), 3, 32) := by kernel_rfl
theorem Yba.info53 : (Yba.prog.info? 53).map (fun i => (i.zero, i.size, i.bytes)) = some (some (.agg #[.int .i64 0, .int .i64 0]), 2, 16) := by kernel_rfl

theorem srow_news {w : World} {B g c : Nat} {K : List (Sp Int)} (h : SRow w B (.slice (some ⟨g, 0, none⟩) K.length c) K) : ∀ j u, (K.flatMap spC)[j]? = some u → w.cell? ((⟨g, 0, none⟩ : Addr).add j) = some u := by
  intro j u hj
  have hl := (List.getElem?_eq_some_iff.1 hj).1
  rw [flat_len spC 3 spC_len] at hl
  rw [Addr.add_lit, Nat.zero_add, World.ownsRow.cellAt h j hl, hj]
theorem mrow_news {w : World} {B g c : Nat} {K : List (Nat × Nat)} (h : MRow w B (.slice (some ⟨g, 0, none⟩) K.length c) K) : ∀ j u, (K.flatMap maC)[j]? = some u → w.cell? ((⟨g, 0, none⟩ : Addr).add j) = some u := by
  intro j u hj
  have hl := (List.getElem?_eq_some_iff.1 hj).1
  rw [flat_len maC 2 maC_len] at hl
  rw [Addr.add_lit, Nat.zero_add, World.ownsRow.cellAt h j hl, hj]

theorem srow_lt {w : World} {B g n c e s : Nat} {xs : List Value} (h : w.ownsRow B e s (.slice (some ⟨g, 0, none⟩) n c) n xs) : g < w.heap.size := by
  rcases h.2 with ⟨h', _⟩ | ⟨g', cap', cur, h', _, hg, _⟩
  · simp at h'
  · simp only [Value.slice.injEq, Option.some.injEq, Addr.mk.injEq, and_true, true_and] at h'
    obtain ⟨rfl, rfl⟩ := h'
    exact (Array.getElem?_eq_some_iff.1 hg).1

set_option maxHeartbeats 2000000 in
theorem clone_spans (g c B : Nat) (K : List (Sp Int)) (w : World) (ha : SRow w B (.slice (some ⟨g, 0, none⟩) K.length c) K) (hn : K.length ≤ 8192) :
    Calls Yba.prog 12 #[.slice (some ⟨g, 0, none⟩) K.length c] w fun e w' => ∃ v, e = .returned v ∧ SRow w' w.heap.size v K ∧ Below w.heap.size w w' := by
  have q42 : ∀ (w : World) (a : Option Addr) (n c n' c' : Nat), (binOp .eql 42 (.slice a n c) (.slice none n' c')).run Yba.prog w = .ok (.bool a.isNone) w := fun w a n c n' c' => Lib.run_eql_slice_nil w _ _ a n c n' c' Yba.underlying42
  obtain ⟨i0, hi, hz0, hz1, hz2⟩ := info_parts Yba.info50
  go_enter Yba.func12, Yba.ntmps12
  have hown : (w.alloc (.cells #[] 50)).ownsRow w.heap.size 50 3 (.slice (some ⟨w.heap.size, 0, none⟩) 0 0) 0 [] := World.ownsRow_lit w #[] 0 (Nat.le_refl _) (by unfold maxLen; omega) rfl
  have hlt : g < w.heap.size := srow_lt ha
  have hb0 : Below w.heap.size w (w.alloc (.cells #[] 50)) := (Below.refl _ _).alloc (Nat.le_refl _) _
  have ha2 : SRow (w.alloc (.cells #[] 50)) B (.slice (some ⟨g, 0, none⟩) K.length c) K := owns_below ha hb0
  go_wp2_with (at_builtin; refine wpList_append_own_at _ rfl (.tmp 5) (.tmp 6) 42 rfl w.heap.size 50 i0 _ 3 32 Yba.underlying42 hi hz0 hz1 hz2 rfl (by decide) _ _ _ rfl hown ⟨g, 0, none⟩ K.length c (K.flatMap spC) rfl (flat_len spC 3 spC_len K) (srow_news ha2) (spC_one K) (by unfold maxLen; omega) (by omega) (by simp) ?_)
  intro v3 w3 hrow3 hg3 _ hl3
  have hb3 : Below w.heap.size w w3 := hb0.grown hg3 (by simp) (fun k hk => by simp [Value.ownBlock] at hk; omega)
  go_wp2
  go_ret
  exact ⟨_, rfl, by simpa [SRow] using hrow3, hb3⟩

set_option maxHeartbeats 2000000 in
theorem clone_matches (g c B : Nat) (K : List (Nat × Nat)) (w : World) (ha : MRow w B (.slice (some ⟨g, 0, none⟩) K.length c) K) (hn : K.length ≤ 8192) :
    Calls Yba.prog 13 #[.slice (some ⟨g, 0, none⟩) K.length c] w fun e w' => ∃ v, e = .returned v ∧ MRow w' w.heap.size v K ∧ Below w.heap.size w w' := by
  have q51 : ∀ (w : World) (a : Option Addr) (n c n' c' : Nat), (binOp .eql 51 (.slice a n c) (.slice none n' c')).run Yba.prog w = .ok (.bool a.isNone) w := fun w a n c n' c' => Lib.run_eql_slice_nil w _ _ a n c n' c' Yba.underlying51
  obtain ⟨i0, hi, hz0, hz1, hz2⟩ := info_parts Yba.info53
  go_enter Yba.func13, Yba.ntmps13
  have hown : (w.alloc (.cells #[] 53)).ownsRow w.heap.size 53 2 (.slice (some ⟨w.heap.size, 0, none⟩) 0 0) 0 [] := World.ownsRow_lit w #[] 0 (Nat.le_refl _) (by unfold maxLen; omega) rfl
  have hlt : g < w.heap.size := srow_lt ha
  have hb0 : Below w.heap.size w (w.alloc (.cells #[] 53)) := (Below.refl _ _).alloc (Nat.le_refl _) _
  have ha2 : MRow (w.alloc (.cells #[] 53)) B (.slice (some ⟨g, 0, none⟩) K.length c) K := owns_below ha hb0
  go_wp2_with (at_builtin; refine wpList_append_own_at _ rfl (.tmp 5) (.tmp 6) 51 rfl w.heap.size 53 i0 _ 2 16 Yba.underlying51 hi hz0 hz1 hz2 rfl (by decide) _ _ _ rfl hown ⟨g, 0, none⟩ K.length c (K.flatMap maC) rfl (flat_len maC 2 maC_len K) (mrow_news ha2) (maC_one K) (by unfold maxLen; omega) (by omega) (by simp) ?_)
  intro v3 w3 hrow3 hg3 _ hl3
  have hb3 : Below w.heap.size w w3 := hb0.grown hg3 (by simp) (fun k hk => by simp [Value.ownBlock] at hk; omega)
  go_wp2
  go_ret
  exact ⟨_, rfl, by simpa [MRow] using hrow3, hb3⟩

end Go.Proofs.Ybulkdicc
