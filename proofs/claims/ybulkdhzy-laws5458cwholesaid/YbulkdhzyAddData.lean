import Derived.Test.YbulkdhzyAppend
import Derived.WalkSpells
namespace Go.Proofs.Ybulkdhzy
open Go.RowKit
set_option linter.unusedVariables false

/-- The thirteen bytes. -/
def adBytes (seq typ n : Int) : List Int := word8 seq ++ [typ, 3, 3, n % 65536 / 256, n % 65536 % 256]

set_option maxHeartbeats 1000000 in
theorem addData (h : Nat) (seq typ n : Int) (w : World) (hc : w.cell? ⟨h, 4, none⟩ = some (.int .u64 seq)) (hs0 : 0 ≤ seq) (hs1 : seq < 18446744073709551616) :
    Calls Yba.prog 6 #[.pointer (some ⟨h, 0, none⟩), .int .u8 typ, .int .i64 n] w fun e w' => e = .returned (.slice (some ⟨w.heap.size, 0, none⟩) 13 13) ∧
      w'.ownsRow w.heap.size 5 1 (.slice (some ⟨w.heap.size, 0, none⟩) 13 13) 13 ((adBytes seq typ n).map (Value.int .u8)) ∧ Below w.heap.size w w' := by
  obtain ⟨i0, hi, hz0, hz1, hz2⟩ := info_parts Yba.info5
  have hh : h < w.heap.size := World.block_lt_of_cell? w _ hc
  go_enter Yba.func6, Yba.ntmps6
  go_wp2_with (at_make; refine wpList_make_own _ rfl _ _ 44 rfl w.heap.size 5 i0 (.int .u8 0) 1 Yba.underlying44 hi hz0 hz1 _ _ _ 13 rfl rfl (by omega) ?b2 ?b3 (Nat.le_refl _) ?_)
  case b2 => rw [hz2]; omega
  case b3 => unfold maxLen; omega
  intro w1 hown1 hg1
  have hc1 : w1.cell? ⟨h, 4, none⟩ = some (.int .u64 seq) := hg1.cell hc (by simp)
  go_wp2
  go_region_with (go_at_call 7; refine (app64 w.heap.size w.heap.size 0 seq [] _ (by exact hown1) (by omega) hs0 hs1).mono ?_; rintro e w2 ⟨rfl, hown2, hg2⟩)
  all_goals
    have hown2' : w2.ownsRow w.heap.size 5 1 (.slice (some ⟨w.heap.size, 0, none⟩) 8 13) 8 ((word8 seq).map (Value.int .u8)) := by simpa using hown2
    have hb2 : Below w.heap.size w w2 := (((Below.refl _ _).grown hg1 (Nat.le_refl _) (fun k h => by cases h)).drew).grown hg2 (by have := hg1.size; simpa using this) (fun k h => by cases h; exact Nat.le_refl _)
    clear hown2 hg2
    go_wp2_with (at_builtin; refine wpList_append_fits _ rfl _ _ 44 rfl w.heap.size 5 i0 1 Yba.underlying44 hi hz1 w.heap.size 8 13 _ rfl (hown2'.alloc _) ⟨w2.heap.size, 0, none⟩ 1 1 [.int .u8 typ] rfl rfl (cell_one_new _ _ _) (ints_oneCell .u8 [typ]) (by omega) ?_)
    intro w3 hown3 hg3
    have hb3 : Below w.heap.size w w3 := (hb2.alloc hb2.size _).grown hg3 (by have := hb2.size; simp; omega) (fun k h => by cases h; exact Nat.le_refl _)
    go_wp2_with fail
    refine (app16 w.heap.size w.heap.size 9 771 _ w3 hown3 (by omega) (by omega) (by omega)).mono ?_
    rintro e w4 ⟨rfl, hown4, hg4⟩
    have hb4 : Below w.heap.size w w4 := hb3.grown hg4 hb3.size (fun k h => by cases h; exact Nat.le_refl _)
    clear hown3 hg3 hb3 hg4 hown2' hb2
    go_wp2_with fail
    rw [IntKind.wrap_u16]
    refine (app16 w.heap.size w.heap.size 11 (n % 65536) _ w4 hown4 (by omega) (by omega) (by omega)).mono ?_
    rintro e w5 ⟨rfl, hown5, hg5⟩
    have hb5 : Below w.heap.size w w5 := hb4.grown hg5 hb4.size (fun k h => by cases h; exact Nat.le_refl _)
    go_wp2
    go_ret
    exact ⟨rfl, by simpa [adBytes] using hown5, hb5⟩

end Go.Proofs.Ybulkdhzy
