import Derived.Test.YbulkdhzkParts
namespace Go.Proofs.Ybulkdhzk
open Go.RowKit

set_option maxHeartbeats 1000000 in
theorem eq_true (a b : Option Addr) (n ca cb : Nat) (zs : List Int) (w : World) (ha : Rd w a n zs) (hb : Rd w b n zs) (hn : n ≤ 140737488355328) :
    Calls Yba.prog 7 #[.slice a n ca, .slice b n cb] w fun e w' => e = .returned (.bool true) ∧ ∃ q, w' = w.drewN q := by
  have hne : ((n : Int) != (n : Int)) = false := by simp
  go_enter Yba.func7, Yba.ntmps7
  go_wp2
  go_loopw [5] (fun i wr => ∃ k q : Nat, k ≤ n ∧ i = .int .i64 k ∧ wr = w.drewN q) (fun i _ => n - (intOf i).toNat)
  case atStart => exact ⟨0, 0, Nat.zero_le _, rfl, rfl⟩
  case round =>
    obtain ⟨k, q, hk, rfl, rfl⟩ := hrel
    by_cases hlt : k < n
    · obtain ⟨hl, h0 | ⟨ba, oa, rfl, hca⟩⟩ := ha
      · omega
      obtain ⟨_, h0 | ⟨bb, ob, rfl, hcb⟩⟩ := hb
      · omega
      have h1 := hca k hlt
      have h2 := hcb k hlt
      clear hca hcb
      go_wp2
      go_quiet (fail)
      go_wp2
      go_roundw
      case rel => exact ⟨k + 1, _, by omega, by go_num, rfl⟩
      case measure => simp [intOf]; omega
    · go_wp2
      go_ret
      exact ⟨rfl, _, rfl⟩

end Go.Proofs.Ybulkdhzk
