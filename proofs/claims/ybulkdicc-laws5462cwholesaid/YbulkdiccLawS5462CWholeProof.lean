import Derived.Test.YbulkdiccRows
import Derived.WalkKit
import Derived.ProofKit
import Derived.OpenShut
import Derived.ShutString
import Derived.ChangeOld
import Derived.Below
import Derived.SizedLaws
import Derived.Deep.SlicePairs
import Derived.Test.YbulkdiccLaw
namespace Go.Proofs.Ybulkdicc.lawS5462CWhole
open Go.ChangeShapes Go.WideShapes Go.ChangeAt Go.RowKit
set_option linter.unusedVariables false

theorem own : ownKnob Yba.prog.godebug = none := by kernel_rfl
theorem laidOut : laidOutB Yba.prog = true := by kernel_rfl
theorem cells44 : Yba.prog.cellsOf 44 = 2 := by kernel_rfl
theorem cells5 : Yba.prog.cellsOf 5 = 1 := by kernel_rfl
theorem bytes44 : Yba.prog.bytesOf 44 = 2 := by kernel_rfl

/-- A slice of pairs of bytes that came in: opened. -/
theorem segs_of {H : Type} {enc : TypeId × Value → H} {W : World} {base : Nat} {held : Bool} {a : Option Addr} {n c : Nat} {d : DataW H} {ps : List MemPlace} (h : DataW.Trod enc Yba.prog W base (fun _ => true) held 41 (.slice a n c) d ps) :
    Segs W a n ∧ ((d = .nil ∧ n = 0) ∨ ∃ el sp, d = .slice el sp ∧ el.length = n) := by
  obtain ⟨fuel, hf⟩ := h
  rcases Go.Deep.open_slice_pairs Yba.underlying41 Yba.underlying44 cells44 rfl rfl cells5 cells5 hf with ⟨hcs, hx⟩ | ⟨x, l, cp, m, k, V0, V1, D0, D1, P0, P1, hcs, _, hl, hm, hmm, hx, hat⟩
  · simp [Value.cells] at hcs
    obtain ⟨rfl, rfl, rfl⟩ := hcs
    simp only [Prod.mk.injEq] at hx
    exact ⟨fun i hi => by omega, .inl ⟨hx.1, rfl⟩⟩
  · simp [Value.cells] at hcs
    obtain ⟨rfl, rfl, rfl⟩ := hcs
    simp only [if_true] at hmm
    simp only [Prod.mk.injEq] at hx
    refine ⟨fun i hi => ?_, .inr ⟨_, _, hx.1, by simp⟩⟩
    obtain ⟨b, o, spot⟩ := x
    have hspot : spot = none := by
      obtain ⟨h0, _⟩ := hat 0 (by omega)
      simpa [Addr.add] using World.cell?_spot h0
    subst hspot
    obtain ⟨h0, h1, t0, t1⟩ := hat i (by omega)
    obtain ⟨z0, e0, _, w0⟩ := DataW.trod_int Yba.underlying5 t0
    obtain ⟨z1, e1, _, w1⟩ := DataW.trod_int Yba.underlying5 t1
    simp only [List.cons.injEq, and_true] at e0 e1
    obtain ⟨l0, u0⟩ := bounds_u8 w0
    obtain ⟨l1, u1⟩ := bounds_u8 w1
    refine ⟨b, o, rfl, z0.toNat, z1.toNat, by omega, by omega, ?_, ?_⟩
    · rw [Addr.add_lit, e0] at h0
      rw [h0]; congr 2; omega
    · rw [Addr.add_lit, e1, ← Nat.add_assoc] at h1
      rw [h1]; congr 2; omega

set_option maxRecDepth 100000 in
theorem lifted (os : Os) (started : os.Started) (H : Type) (enc : TypeId × Value → H) :
    ReturnsInHanded {} Yba.checked os 5 .any (Rows.lawS5462CWholeSpec.pre6 enc Yba.prog Yba.f5 Rows.lawS5462CWholeRow.domain false) (Rows.lawS5462CWholeSpec.post enc Yba.prog Yba.f5 false true false false) := by
  refine returnsInHanded_of_change_sized (C := Yba.checked) own started (by kernel_rfl) Yba.func5
    (ChangeSpec.witness6 (enc := enc) (C := Yba.checked) false ⟨#[], #[.slice none 0 0, .slice none 0 0, .int .i64 0], []⟩ 8 (by kernel_rfl) (by kernel_rfl) (by kernel_rfl) (by kernel_rfl)) ?_
  intro W base args ds gs before hval0 hW hcnd hsz0 _
  have hsz : (DataW.weightsEach Yba.prog (Yba.f5.params.toList ++ Rows.lawS5462CWholeSpec.plain.varTypes Yba.prog) (ds ++ gs)).all (· ≤ reachBytes) = true := hsz0
  have hval : ∀ (j : Nat) t v, Yba.f5.params[j]? = some t → args[j]? = some v → Value.okWide Yba.prog W .any base t v := hval0
  have hW' := hW
  obtain ⟨p, q, hA0, hV, rfl, hfz, hnd⟩ := hW
  have hA : DataW.TrodAll enc Yba.prog W 0 (fun _ => true) true Yba.f5.params.toList args.toList ds p := hA0
  rw [Yba.params5] at hA hval hsz
  obtain ⟨v0, vs0, d0, ds0, p0, q0, hargs, rfl, rfl, h0, r0⟩ := trodAll_cons hA
  obtain ⟨v1, vs1, d1, ds1, p1, q1, rfl, rfl, rfl, h1, r1⟩ := trodAll_cons r0
  obtain ⟨v2, vs2, d2, ds2, p2, q2, rfl, rfl, rfl, h2, r2⟩ := trodAll_cons r1
  obtain ⟨rfl, rfl, rfl⟩ := trodAll_nil r2
  obtain rfl : args = #[v0, v1, v2] := by cases args; simp_all
  obtain ⟨rfl, rfl⟩ := trodVars_none hV
  obtain ⟨a0, n0, c0, rfl⟩ := okWide_slice Yba.underlying41 (hval 0 41 v0 rfl rfl)
  have k0 := h0
  have lt0 : ∀ x ∈ p0, x.block < W.heap.size := by obtain ⟨m, hm⟩ := k0; exact DataW.trod_lt m _ _ _ hm
  obtain ⟨s0, e0⟩ := segs_of h0
  obtain ⟨a1, n1, c1, rfl⟩ := okWide_slice Yba.underlying41 (hval 1 41 v1 rfl rfl)
  have k1 := h1
  have lt1 : ∀ x ∈ p1, x.block < W.heap.size := by obtain ⟨m, hm⟩ := k1; exact DataW.trod_lt m _ _ _ hm
  obtain ⟨s1, e1⟩ := segs_of h1
  obtain ⟨a2, rfl, rfl, rfl, w2⟩ := open_int Yba.underlying3 (hval 2 3 v2 rfl rfl) h2
  have b0 : n0 ≤ 281474976710656 := by
    rcases e0 with ⟨_, h⟩ | ⟨el, sp, rfl, hl⟩
    · omega
    · have := sized_slice hsz (j := 0) (t := 41) (e := 44) rfl rfl Yba.underlying41
      rw [bytes44] at this
      simp only [reachBytes] at this
      omega
  have b1 : n1 ≤ 281474976710656 := by
    rcases e1 with ⟨_, h⟩ | ⟨el, sp, rfl, hl⟩
    · omega
    · have := sized_slice hsz (j := 1) (t := 41) (e := 44) rfl rfl Yba.underlying41
      rw [bytes44] at this
      simp only [reachBytes] at this
      omega
  clear hA0 hval0 hval hsz hsz0
  refine (law_walk a0 a1 n0 c0 n1 c1 a2 W s0 s1 b0 b1).mono fun e W' ⟨he, bel⟩ => ?_
  subst he
  exact ⟨_, rfl, _, _, _, [], _, [], hW', trodAll_mk1 (shut_bool Yba.underlying4 _), (trodAll_cons_mk (Below.trod laidOut (by kernel_rfl) (of_decide_eq_true (by kernel_rfl)) k0 bel lt0) (trodAll_cons_mk (Below.trod laidOut (by kernel_rfl) (of_decide_eq_true (by kernel_rfl)) k1 bel lt1) (trodAll_cons_mk (shut_int Yba.underlying3 w2) trodAll_mk0))), rfl, bel.frame _, fun h => by cases h⟩

theorem over : Rows.lawS5462CWholeRow.holds Yba.pinned (OpenSpec.ofChange Rows.lawS5462CWholeSpec) :=
  OpenClaim.holds_of_wide 5 Yba.f5 rfl rfl rfl rfl rfl rfl rfl ⟨rfl, rfl, rfl, rfl, rfl⟩ rfl rfl rfl rfl rfl (by kernel_rfl) Yba.func5 (by kernel_rfl)
    (of_decide_eq_true (by kernel_rfl)) (by unfold Func.isWrapper; first | (rw [if_pos (by decide +kernel)]; kernel_rfl) | (rw [if_neg (by decide +kernel)]; exact ⟨rfl, rfl⟩))
    (fun os started H enc _ => lifted os started H enc)

/-- THE STATEMENT -/
theorem proved : Rows.LawS5462CWholeSaid := over
end Go.Proofs.Ybulkdicc.lawS5462CWhole
