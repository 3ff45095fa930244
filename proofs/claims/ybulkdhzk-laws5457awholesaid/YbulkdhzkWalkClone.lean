import Derived.Test.YbulkdhzkParts
import Derived.WalkSpells
import Derived.Laws.CopyOwn
namespace Go.Proofs.Ybulkdhzk
open Go.RowKit

theorem Yba.size5 : (Yba.prog.info? 5).map (·.size) = some 1 := by kernel_rfl

/-- zzs5457aclone: nil to nil; else a new row that holds the same numbers, no room behind. -/
def Cloned (w w' : World) (n : Nat) (zs : List Int) (v : Value) : Prop :=
  ∃ a', v = .slice a' n n ∧ w'.ownsRow w.heap.size 5 1 (.slice a' n n) n (zs.map (Value.int .u8)) ∧ Below w.heap.size w w'

theorem copy_made (w : World) (B g n c : Nat) (L : List Value) (x : Addr) (zs : List Int) (hown : w.ownsRow B 5 1 (.slice (some ⟨g, 0, none⟩) n n) n L) (ha : Rd w (some x) n zs) :
    ∃ w2, (∀ ty, (Builtin.copy_ #[22, 22] ty #[.slice (some ⟨g, 0, none⟩) n n, .slice (some x) n c]).run Yba.prog w = .ok (goInt n) w2) ∧
      w2.ownsRow B 5 1 (.slice (some ⟨g, 0, none⟩) n n) n (zs.map (Value.int .u8)) ∧ Below B w w2 := by
  obtain ⟨hl, h0 | ⟨b, o, hx, hc⟩⟩ := ha
  · subst h0
    have hz : zs = [] := List.eq_nil_of_length_eq_zero hl
    subst hz
    have hL : L = [] := List.eq_nil_of_length_eq_zero (by simpa using hown.1)
    subst hL
    exact ⟨w, fun ty => run_copy_none (P := Yba.prog) w 22 22 ty 5 _ _ 0 0 0 c Yba.underlying22 Yba.size5 rfl, hown, Below.refl _ _⟩
  · obtain rfl := Option.some.inj hx
    rcases hown.2 with ⟨h, _⟩ | ⟨g', cap, cur, hv, hB, hg, hnc, hcm, hcs, _⟩
    · cases h
    simp only [Value.slice.injEq, Option.some.injEq, Addr.mk.injEq, and_true, true_and] at hv
    obtain ⟨rfl, rfl⟩ := hv
    have hcs' : cur.size = n := by simpa using hcs
    have hrun := fun ty => run_copy_row (P := Yba.prog) w 22 22 ty 5 g 0 n n ⟨b, o, none⟩ n c cur 5 (zs.map (Value.int .u8)) Yba.underlying22 Yba.size5 hg (by simp [hl]) (by
      intro j v hj
      have hj' : j < n := by have := (List.getElem?_eq_some_iff.1 hj).1; simpa [hl] using this
      rw [Addr.add_lit, hc j hj']
      rw [← hj]; simp [List.getD, show j < zs.length by omega]) (by simp [hl, hcs']) (ints_oneCell _ _)
    simp only [List.length_map, hl] at hrun
    refine ⟨_, hrun, ⟨by simp [hl], .inr ⟨g, n, _, rfl, hB, setRow_heap w g _ _ 5 _ hg, Nat.le_refl _, hcm, ?_, ?_⟩⟩, below_setRow (Below.refl _ _) hB _⟩
    · simp [hl, hcs']
    · simp [hl]

set_option maxHeartbeats 1000000 in
theorem clone_any (a : Option Addr) (n c : Nat) (zs : List Int) (w : World) (ha : Rd w a n zs) (h0 : a = none → n = 0) (hn : n ≤ 1048576) :
    Calls Yba.prog 5 #[.slice a n c] w fun e w' => ∃ v, e = .returned v ∧ Cloned w w' n zs v := by
  obtain ⟨i0, hi, hz0, hz1, hz2⟩ := info_parts Yba.info5
  have q22 : ∀ (w : World) (a : Option Addr) (n c n' c' : Nat), (binOp .eql 22 (.slice a n c) (.slice none n' c')).run Yba.prog w = .ok (.bool a.isNone) w := fun w a n c n' c' => Lib.run_eql_slice_nil w _ _ a n c n' c' Yba.underlying22
  cases a with
  | none =>
    obtain rfl := h0 rfl
    have hz : zs = [] := List.eq_nil_of_length_eq_zero ha.1
    subst hz
    go_enter Yba.func5, Yba.ntmps5
    go_wp2
    go_ret
    exact ⟨_, rfl, none, rfl, World.ownsRow_nil _ _ _ _, Below.refl _ _⟩
  | some x =>
    go_enter Yba.func5, Yba.ntmps5
    go_wp2_with (at_make; refine wpList_make_full _ rfl _ _ 22 rfl w.heap.size 5 i0 (.int .u8 0) 1 Yba.underlying22 hi hz0 hz1 _ _ _ _ n rfl rfl rfl rfl ?b2 ?b3 (Nat.le_refl _) ?_)
    case b2 => rw [hz2]; omega
    case b3 => unfold maxLen; omega
    intro w1 hown hgrow
    have hbel : Below w.heap.size w w1 := (Below.refl _ _).grown hgrow (Nat.le_refl _) (fun k h => by cases h)
    obtain ⟨w2, hrun, hown2, hb2⟩ := copy_made w1 w.heap.size w.heap.size n c _ x zs hown (ha.below hbel (Nat.le_refl _))
    go_wp2
    go_ret
    exact ⟨_, rfl, _, rfl, hown2, hbel.trans hb2⟩

end Go.Proofs.Ybulkdhzk
