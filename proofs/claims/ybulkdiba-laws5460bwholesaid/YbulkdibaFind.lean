import Derived.Test.YbulkdibaXor
namespace Go.Proofs.Ybulkdiba
open Go.RowKit Go.Maps
set_option linter.unusedVariables false

theorem owns_parts {w : World} {B : Nat} {e : TypeId} {v : Value} {n : Nat} {xs : List Value} (h : w.ownsRow B e 1 v n xs) :
    ∃ a c, v = .slice a n c ∧ xs.length = n ∧ (a = none → n = 0 ∧ c = 0) ∧ n ≤ c ∧ (n = 0 ∨ ∃ g, a = some ⟨g, 0, none⟩ ∧ ∀ i u, xs[i]? = some u → w.cell? ⟨g, i, none⟩ = some u) := by
  rcases h.2 with ⟨rfl, h0⟩ | ⟨g, cap, cur, rfl, hb, hg, hnc, _⟩
  · exact ⟨none, 0, by rw [h0], by simpa using h.1, fun _ => ⟨h0, rfl⟩, by omega, .inl h0⟩
  · refine ⟨some ⟨g, 0, none⟩, cap, rfl, by simpa using h.1, (fun e => by cases e), hnc, .inr ⟨g, rfl, fun i u hu => ?_⟩⟩
    have := h.cells (g := g) rfl i u hu
    simpa [Addr.add_lit] using this

/-- The records' addresses, each with its block. -/
def Finds (w : World) (rv : Value) (FL : List (ByteArray × Nat)) : Prop :=
  w.ownsRow 0 39 1 rv FL.length (FL.map fun x => ptr x.2) ∧ ∀ x ∈ FL, w.cell? ⟨x.2, 0, none⟩ = some (.string x.1)

theorem getL_drop_step (a : ByteArray) (FL : List (ByteArray × Nat)) (k : Nat) (h : k < FL.length) : getL a (FL.drop k) = if (FL[k]).1 = a then some (FL[k]).2 else getL a (FL.drop (k + 1)) := by
  rw [List.drop_eq_getElem_cons h]; rfl

set_option maxHeartbeats 1000000 in
theorem find_any (rv : Value) (FL : List (ByteArray × Nat)) (a : ByteArray) (w : World) (h : Finds w rv FL) (hn : FL.length ≤ 1000000) :
    Calls Yba.prog 4 #[rv, .string a] w fun e w' => e = .returned (ptrO (getL a FL)) ∧ w' = w := by
  obtain ⟨h1, h2⟩ := h
  obtain ⟨ra, c, rfl, hl, h0, hnc, hcells⟩ := owns_parts h1
  clear h1
  go_enter Yba.func4, Yba.ntmps4
  go_wp2
  go_loop [9] (fun i => ∃ k : Nat, k ≤ FL.length ∧ i = .int .i64 k ∧ getL a FL = getL a (FL.drop k)) (fun i => FL.length - (intOf i).toNat)
  case atStart => exact ⟨0, Nat.zero_le _, rfl, by simp⟩
  case round =>
    obtain ⟨k, hk, rfl, hget⟩ := hrel
    by_cases hlt : k < FL.length
    · rcases hcells with hz | ⟨g, rfl, hc⟩
      · omega
      have c1 : w.cell? ⟨g, k, none⟩ = some (ptr (FL[k]).2) := hc k _ (by simp [hlt])
      have c2 : w.cell? ⟨(FL[k]).2, 0, none⟩ = some (.string (FL[k]).1) := h2 _ (List.getElem_mem hlt)
      have HG : Hid (getL a FL = if (FL[k]).1 = a then some (FL[k]).2 else getL a (FL.drop (k + 1))) := hget.trans (getL_drop_step a FL k hlt)
      generalize (FL[k]) = x at *
      obtain ⟨xa, xb⟩ := x
      simp only [ptr] at c1 c2
      clear hget hc h2
      by_cases he : xa = a
      · have he' : (xa.toList == a.toList) = true := by rw [he]; simp
        go_wp2
        go_ret
        exact ⟨by rw [HG.out, if_pos he]; rfl, rfl⟩
      · have he' : (xa.toList == a.toList) = false := by
          rw [beq_eq_false_iff_ne]
          intro e
          exact he (by rw [ByteArray.toList_eq, ByteArray.toList_eq] at e; cases xa; cases a; congr; exact Array.ext' (by simpa using e))
        go_wp2
        go_round
        case rel => exact ⟨k + 1, by omega, by go_num, by rw [HG.out, if_neg he]⟩
        case measure => simp [intOf]; omega
    · rw [List.drop_of_length_le (by omega)] at hget
      have HG : Hid (getL a FL = getL a []) := hget
      clear hget
      go_wp2
      go_ret
      exact ⟨by rw [HG.out]; rfl, rfl⟩

end Go.Proofs.Ybulkdiba
