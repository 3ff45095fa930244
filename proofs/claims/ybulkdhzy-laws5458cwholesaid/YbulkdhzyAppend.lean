import Derived.Test.YbulkdhzyRows
import Derived.WalkKit
import Derived.ProofKit
import Derived.RegionTactic
import Derived.BigRegion
import Derived.Deep.RegionWith
import Derived.Deep.QuietTactic
import Derived.BigQuiet
namespace Go.Proofs.Ybulkdhzy
open Go.RowKit
set_option linter.unusedVariables false

theorem Yba.info5 : (Yba.prog.info? 5).map (fun i => (i.zero, i.size, i.bytes)) = some (some (.int .u8 0), 1, 1) := by kernel_rfl

/-- The bytes of a word, the greatest first. -/
def word8 (v : Int) : List Int := [v / 72057594037927936, v / 281474976710656 % 256, v / 1099511627776 % 256, v / 4294967296 % 256, v / 16777216 % 256, v / 65536 % 256, v / 256 % 256, v % 256]

theorem grown_trans {a b c : World} {r : Option Nat} (h : a.grownBy b r) (k : b.grownBy c r) : a.grownBy c r :=
  ⟨k.os.trans h.os, k.tape.trans h.tape, k.output.trans h.output, Nat.le_trans h.size k.size, fun i hi hr => (k.block i (Nat.lt_of_lt_of_le hi h.size) hr).trans (h.block i hi hr)⟩

set_option maxHeartbeats 1000000 in
theorem app16 (B g n : Nat) (v : Int) (xs : List Value) (w : World) (hown : w.ownsRow B 5 1 (.slice (some ⟨g, 0, none⟩) n 13) n xs) (hn : n + 2 ≤ 13) (hv0 : 0 ≤ v) (hv1 : v < 65536) :
    Calls Yba.prog 8 #[.agg #[], .slice (some ⟨g, 0, none⟩) n 13, .int .u16 v] w fun e w' => e = .returned (.slice (some ⟨g, 0, none⟩) (n + 2) 13) ∧
      w'.ownsRow B 5 1 (.slice (some ⟨g, 0, none⟩) (n + 2) 13) (n + 2) (xs ++ [.int .u8 (v / 256), .int .u8 (v % 256)]) ∧ w.grownBy w' (some g) := by
  obtain ⟨i0, hi, hz0, hz1, hz2⟩ := info_parts Yba.info5
  go_enter Yba.func8, Yba.ntmps8
  go_wp2_with (at_builtin; refine wpList_append_fits _ rfl _ _ 44 rfl B 5 i0 1 Yba.underlying44 hi hz1 g n 13 _ rfl ((hown.alloc _).alloc _) _ 2 2 [.int .u8 (v / 256), .int .u8 (v % 256)] rfl rfl ?c1 ?c2 (by omega) ?_)
  case c1 =>
    intro j u hj
    match j, hj with
    | 0, hj => simp at hj; subst hj; simp [Addr.add]
    | 1, hj => simp at hj; subst hj; simp [Addr.add]
  case c2 => exact ints_oneCell .u8 [_, _]
  intro w2 hown2 hg2
  go_wp2
  go_ret
  exact ⟨rfl, hown2, grown_trans (grown_trans (World.grownBy_alloc w _ (some g)) (World.grownBy_alloc _ _ (some g))) hg2⟩

set_option maxHeartbeats 1000000 in
theorem app64 (B g n : Nat) (v : Int) (xs : List Value) (w : World) (hown : w.ownsRow B 5 1 (.slice (some ⟨g, 0, none⟩) n 13) n xs) (hn : n + 8 ≤ 13) (hv0 : 0 ≤ v) (hv1 : v < 18446744073709551616) :
    Calls Yba.prog 7 #[.agg #[], .slice (some ⟨g, 0, none⟩) n 13, .int .u64 v] w fun e w' => e = .returned (.slice (some ⟨g, 0, none⟩) (n + 8) 13) ∧
      w'.ownsRow B 5 1 (.slice (some ⟨g, 0, none⟩) (n + 8) 13) (n + 8) (xs ++ (word8 v).map (Value.int .u8)) ∧ w.grownBy w' (some g) := by
  obtain ⟨i0, hi, hz0, hz1, hz2⟩ := info_parts Yba.info5
  go_enter Yba.func7, Yba.ntmps7
  go_wp2_with (at_builtin; refine wpList_append_fits _ rfl _ _ 44 rfl B 5 i0 1 Yba.underlying44 hi hz1 g n 13 _ rfl ((hown.alloc _).alloc _) _ 8 8 ((word8 v).map (Value.int .u8)) rfl rfl ?c1 ?c2 (by omega) ?_)
  case c1 =>
    intro j u hj
    match j, hj with
    | 0, hj => simp [word8] at hj; subst hj; simp [Addr.add]
    | 1, hj => simp [word8] at hj; subst hj; simp [Addr.add]
    | 2, hj => simp [word8] at hj; subst hj; simp [Addr.add]
    | 3, hj => simp [word8] at hj; subst hj; simp [Addr.add]
    | 4, hj => simp [word8] at hj; subst hj; simp [Addr.add]
    | 5, hj => simp [word8] at hj; subst hj; simp [Addr.add]
    | 6, hj => simp [word8] at hj; subst hj; simp [Addr.add]
    | 7, hj => simp [word8] at hj; subst hj; simp [Addr.add]
  case c2 => exact ints_oneCell .u8 _
  intro w2 hown2 hg2
  go_wp2
  go_ret
  exact ⟨rfl, hown2, grown_trans (grown_trans (World.grownBy_alloc w _ (some g)) (World.grownBy_alloc _ _ (some g))) hg2⟩

end Go.Proofs.Ybulkdhzy
