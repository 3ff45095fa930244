import Derived.Test.YbulkdiccEq
import Derived.Deep.DrawnRows
import Derived.WalkSpells
namespace Go.Proofs.Ybulkdicc
open Go.RowKit
set_option linter.unusedVariables false
attribute [local go_sem ↓] exec_neq50 wp_neq50 exec_neq53 wp_neq53 Go.wp_at_zero Go.wp_at_succ

theorem below_drew {B : Nat} {a b : World} (h : Below B a b) : Below B a b.drew := h.trans ⟨rfl, rfl, rfl, Nat.le_refl _, fun _ _ => rfl⟩

set_option maxHeartbeats 2000000 in
theorem equal_spans (a b : Option Addr) (ca cb : Nat) (K : List (Sp Int)) (w : World) (ha : SAt w a K) (hb : SAt w b K) (hn : K.length ≤ 8192) :
    Calls Yba.prog 15 #[.slice a K.length ca, .slice b K.length cb] w fun e w' => e = .returned (.bool true) ∧ Below w.heap.size w w' := by
  have hne : ((K.length : Int) != (K.length : Int)) = false := by simp
  go_enter Yba.func15, Yba.ntmps15
  go_wp2
  go_loopw [13] (fun i wr => ∃ k : Nat, k ≤ K.length ∧ i = .int .i64 k ∧ Below w.heap.size w wr) (fun i _ => K.length - (intOf i).toNat)
  case atStart => exact ⟨0, Nat.zero_le _, rfl, Below.refl _ _⟩
  case round =>
    obtain ⟨k, hk, rfl, hbr⟩ := hrel
    by_cases hlt : k < K.length
    · obtain ⟨ga, rfl, a0, a1, a2⟩ := (ha.same hbr).at_ k hlt
      obtain ⟨gb, rfl, b0, b1, b2⟩ := (hb.same hbr).at_ k hlt
      have hq : eqS (.agg #[.int .i64 (K[k]).s, .int .i64 (K[k]).e, opV (K[k]).o]) (.agg #[.int .i64 (K[k]).s, .int .i64 (K[k]).e, opV (K[k]).o]) := ⟨rfl, _, rfl⟩
      generalize (K[k]).s = s at *
      generalize (K[k]).e = e at *
      generalize (K[k]).o = o at *
      go_wp2
      go_region
      go_wp2
      go_roundw
      case rel => exact ⟨k + 1, by omega, by go_num, below_drew hbr⟩
      case measure => simp [intOf]; omega
    · go_wp2
      go_ret
      exact ⟨rfl, hbr⟩

set_option maxHeartbeats 2000000 in
theorem equal_matches (a b : Option Addr) (ca cb : Nat) (K : List (Nat × Nat)) (w : World) (ha : MAt w a K) (hb : MAt w b K) (hn : K.length ≤ 8192) :
    Calls Yba.prog 16 #[.slice a K.length ca, .slice b K.length cb] w fun e w' => e = .returned (.bool true) ∧ Below w.heap.size w w' := by
  have hne : ((K.length : Int) != (K.length : Int)) = false := by simp
  go_enter Yba.func16, Yba.ntmps16
  go_wp2
  go_loopw [13] (fun i wr => ∃ k : Nat, k ≤ K.length ∧ i = .int .i64 k ∧ Below w.heap.size w wr) (fun i _ => K.length - (intOf i).toNat)
  case atStart => exact ⟨0, Nat.zero_le _, rfl, Below.refl _ _⟩
  case round =>
    obtain ⟨k, hk, rfl, hbr⟩ := hrel
    by_cases hlt : k < K.length
    · obtain ⟨ga, rfl, a0, a1⟩ := (ha.same hbr).at_ k hlt
      obtain ⟨gb, rfl, b0, b1⟩ := (hb.same hbr).at_ k hlt
      have hq : eqM (.agg #[.int .i64 (K[k]).1, .int .i64 (K[k]).2]) (.agg #[.int .i64 (K[k]).1, .int .i64 (K[k]).2]) := ⟨rfl, _, rfl⟩
      generalize (K[k]).1 = s at *
      generalize (K[k]).2 = e at *
      go_wp2
      go_region
      go_wp2
      go_roundw
      case rel => exact ⟨k + 1, by omega, by go_num, below_drew hbr⟩
      case measure => simp [intOf]; omega
    · go_wp2
      go_ret
      exact ⟨rfl, hbr⟩

end Go.Proofs.Ybulkdicc
