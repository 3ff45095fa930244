import Derived.Test.YbulkdhzyRows
import Derived.WalkKit
import Derived.ProofKit
import Derived.OpenShut
import Derived.ShutString
import Derived.ChangeOld
import Derived.Below
import Derived.Deep.Strs
import Derived.Test.YbulkdhzyLawA
namespace Go.Proofs.Ybulkdhzy.lawS5458AWhole
open Go.ChangeShapes Go.WideShapes Go.ChangeAt Go.RowKit
set_option linter.unusedVariables false

theorem own : ownKnob Yba.prog.godebug = none := by kernel_rfl
theorem laidOut : laidOutB Yba.prog = true := by kernel_rfl
theorem cells26 : Yba.prog.cellsOf 26 = 144 := by kernel_rfl
theorem cells25 : Yba.prog.cellsOf 25 = 9 := by kernel_rfl
theorem cells23 : Yba.prog.cellsOf 23 = 3 := by kernel_rfl
theorem cells22 : Yba.prog.cellsOf 22 = 1 := by kernel_rfl

section
variable {H : Type} {enc : TypeId × Value → H} {w : World} {base : Nat} {spare : Nat → Bool} {held : Bool}

/-- Every cell of a value of this shape is a word. -/
def Words (cs : List Value) : Prop := ∀ p, p < cs.length → ∃ z, cs[p]? = some (.int .u64 z) ∧ (Lit.int .u64 z).wf = true

theorem cut_at {cs : List Value} {o n q : Nat} (hq : q < n) (h : o + n ≤ cs.length) : ((cs.drop o).take n)[q]? = cs[o + q]? := by
  rw [List.getElem?_take, if_pos hq, List.getElem?_drop]

theorem words23 {fuel : Nat} {cs : List Value} {x : DataW H × List MemPlace} (h : DataW.trod enc Yba.prog w base spare held fuel 23 cs = some x) : cs.length = 3 ∧ Words cs := by
  obtain ⟨xs, m, rfl, rfl, hl, hxl, hx⟩ := DataW.trod_array Yba.underlying23 h
  rw [cells23] at hl
  refine ⟨hl, fun p hp => ?_⟩
  have hp3 : p < 3 := by omega
  have h1 := hx p hp3
  rw [cells22] at h1
  have hxp : xs[p]? = some xs[p] := List.getElem?_eq_getElem (by omega)
  rw [hxp] at h1
  obtain ⟨z, hz, _, hw⟩ := DataW.trod_int Yba.underlying22 h1
  refine ⟨z, ?_, hw⟩
  have h2 := cut_at (cs := cs) (o := p * 1) (n := 1) (q := 0) (by omega) (by omega)
  rw [hz] at h2
  simpa using h2.symm

theorem words25 {fuel : Nat} {cs : List Value} {x : DataW H × List MemPlace} (h : DataW.trod enc Yba.prog w base spare held fuel 25 cs = some x) : cs.length = 9 ∧ Words cs := by
  obtain ⟨y0, y1, y2, n, _, hl, k0, k1, k2⟩ := Go.Deep.trod_struct3 Yba.underlying25 h
  rw [cells25] at hl
  simp only [cells23] at k0 k1 k2
  have a0 := (words23 k0).2
  have a1 := (words23 k1).2
  have a2 := (words23 k2).2
  refine ⟨hl, fun p hp => ?_⟩
  by_cases h3 : p < 3
  · obtain ⟨z, hz, hw⟩ := a0 p (by simp; omega)
    exact ⟨z, by rw [cut_at h3 (by omega)] at hz; simpa using hz, hw⟩
  by_cases h6 : p < 6
  · obtain ⟨z, hz, hw⟩ := a1 (p - 3) (by simp; omega)
    refine ⟨z, ?_, hw⟩
    rw [cut_at (by omega) (by omega)] at hz
    rw [← hz]; congr 1; omega
  · obtain ⟨z, hz, hw⟩ := a2 (p - 6) (by simp; omega)
    refine ⟨z, ?_, hw⟩
    rw [cut_at (by omega) (by omega)] at hz
    rw [← hz]; congr 1; omega

theorem words26 {fuel : Nat} {cs : List Value} {x : DataW H × List MemPlace} (h : DataW.trod enc Yba.prog w base spare held fuel 26 cs = some x) : cs.length = 144 ∧ Words cs := by
  obtain ⟨xs, m, rfl, rfl, hl, hxl, hx⟩ := DataW.trod_array Yba.underlying26 h
  rw [cells26] at hl
  refine ⟨hl, fun p hp => ?_⟩
  have hp16 : p / 9 < 16 := by omega
  have h1 := hx (p / 9) hp16
  rw [cells25] at h1
  have hxp : xs[p / 9]? = some xs[p / 9] := List.getElem?_eq_getElem (by omega)
  rw [hxp] at h1
  obtain ⟨hl9, hw9⟩ := words25 h1
  obtain ⟨z, hz, hw⟩ := hw9 (p % 9) (by omega)
  refine ⟨z, ?_, hw⟩
  rw [cut_at (by omega) (by omega)] at hz
  rw [← hz]; congr 1; omega
end

theorem walk (A : Array Value) (i : Int) (w : World) (hA : A.size = 144) (hw : Words A.toList) (wi : (Lit.int .u64 i).wf = true) :
    Calls Yba.prog 3 #[.agg A, .int .u64 i] w fun e w' => e = .returned (.bool true) ∧ Below w.heap.size w w' := by
  have bd : ∀ z, (Lit.int .u64 z).wf = true → 0 ≤ z ∧ z < 18446744073709551616 := fun z h => by
    have := bounds_u64 h
    omega
  have hT : ∀ p, p < 144 → A[p]? = some (.int .u64 (match A[p]? with | some (.int _ z) => z | _ => 0)) := fun p hp => by
    obtain ⟨z, hz, _⟩ := hw p (by simpa [hA] using hp)
    have hz' : A[p]? = some (.int .u64 z) := by simpa using hz
    rw [hz']
  exact lawA_walk A (fun p => match A[p]? with | some (.int _ z) => z | _ => 0) i w hA hT (fun p hp => by
    obtain ⟨z, hz, hwz⟩ := hw p (by simpa [hA] using hp)
    have hz' : A[p]? = some (.int .u64 z) := by simpa using hz
    show 0 ≤ (match A[p]? with | some (.int _ z) => z | _ => 0) ∧ (match A[p]? with | some (.int _ z) => z | _ => 0) < _
    rw [hz']
    exact bd z hwz) (bd i wi).1 (bd i wi).2

set_option maxRecDepth 100000 in
theorem lifted (os : Os) (started : os.Started) (H : Type) (enc : TypeId × Value → H) :
    ReturnsInHanded {} Yba.checked os 3 .any (Rows.lawS5458AWholeSpec.pre6 enc Yba.prog Yba.f3 Rows.lawS5458AWholeRow.domain false) (Rows.lawS5458AWholeSpec.post enc Yba.prog Yba.f3 false true false false) := by
  refine returnsInHanded_of_change (C := Yba.checked) own started (by kernel_rfl) Yba.func3
    (ChangeSpec.witness6 (enc := enc) (C := Yba.checked) false ⟨#[], #[.agg (Array.replicate 144 (.int .u64 0)), .int .u64 0], []⟩ 8 (by kernel_rfl) (by kernel_rfl) (by kernel_rfl) (by kernel_rfl)) ?_
  intro W base args ds gs before hval0 hW hcnd _
  have hval : ∀ (j : Nat) t v, Yba.f3.params[j]? = some t → args[j]? = some v → Value.okWide Yba.prog W .any base t v := hval0
  have hW' := hW
  obtain ⟨p, q, hA0, hV, rfl, hfz, hnd⟩ := hW
  have hA : DataW.TrodAll enc Yba.prog W 0 (fun _ => true) true Yba.f3.params.toList args.toList ds p := hA0
  rw [Yba.params3] at hA hval
  obtain ⟨v0, vs0, d0, ds0, p0, q0, hargs, rfl, rfl, h0, r0⟩ := trodAll_cons hA
  obtain ⟨v1, vs1, d1, ds1, p1, q1, rfl, rfl, rfl, h1, r1⟩ := trodAll_cons r0
  obtain ⟨rfl, rfl, rfl⟩ := trodAll_nil r1
  obtain rfl : args = #[v0, v1] := by cases args; simp_all
  obtain ⟨rfl, rfl⟩ := trodVars_none hV
  have k0 := h0
  have lt0 : ∀ x ∈ p0, x.block < W.heap.size := by obtain ⟨m, hm⟩ := k0; exact DataW.trod_lt m _ _ _ hm
  have ok0 := hval 0 26 v0 rfl rfl
  unfold Value.okWide at ok0
  rw [Yba.underlying26] at ok0
  obtain ⟨A, rfl, hsA, _⟩ := ok0
  rw [cells26] at hsA
  obtain ⟨fuel, hf⟩ := h0
  have hwA : Words A.toList := (words26 hf).2
  obtain ⟨a1, rfl, rfl, rfl, w1⟩ := open_int Yba.underlying22 (hval 1 22 v1 rfl rfl) h1
  clear hA0 hval0
  refine (walk A a1 W hsA hwA w1).mono fun e W' ⟨he, bel⟩ => ?_
  subst he
  exact ⟨_, rfl, _, _, _, [], _, [], hW', trodAll_mk1 (shut_bool Yba.underlying4 _), (trodAll_cons_mk (Below.trod laidOut (by kernel_rfl) (of_decide_eq_true (by kernel_rfl)) k0 bel lt0) (trodAll_cons_mk (shut_int Yba.underlying22 w1) trodAll_mk0)), rfl, bel.frame _, fun h => by cases h⟩

theorem over : Rows.lawS5458AWholeRow.holds Yba.pinned (OpenSpec.ofChange Rows.lawS5458AWholeSpec) :=
  OpenClaim.holds_of_wide 3 Yba.f3 rfl rfl rfl rfl rfl rfl rfl ⟨rfl, rfl, rfl, rfl, rfl⟩ rfl rfl rfl rfl rfl (by kernel_rfl) Yba.func3 (by kernel_rfl)
    (of_decide_eq_true (by kernel_rfl)) (by unfold Func.isWrapper; first | (rw [if_pos (by decide +kernel)]; kernel_rfl) | (rw [if_neg (by decide +kernel)]; exact ⟨rfl, rfl⟩))
    (fun os started H enc _ => lifted os started H enc)

/-- THE STATEMENT -/
theorem proved : Rows.LawS5458AWholeSaid := over
end Go.Proofs.Ybulkdhzy.lawS5458AWhole
