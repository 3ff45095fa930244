import Derived.Test.YbulkdibaInit
import Derived.OpenShut
import Derived.Deep.Strs
import Derived.Deep.Slices
namespace Go.Proofs.Ybulkdiba
open Go.ChangeShapes Go.WideShapes Go.ChangeAt Go.RowKit
set_option linter.unusedVariables false

theorem Yba.cellsOf26 : Yba.prog.cellsOf 26 = 22 := by kernel_rfl
theorem Yba.cellsOf24 : Yba.prog.cellsOf 24 = 20 := by kernel_rfl
theorem Yba.cellsOf23 : Yba.prog.cellsOf 23 = 1 := by kernel_rfl
theorem Yba.cellsOf9 : Yba.prog.cellsOf 9 = 1 := by kernel_rfl
theorem Yba.cellsOf5 : Yba.prog.cellsOf 5 = 1 := by kernel_rfl

theorem cut_one {cs : List Value} {o : Nat} {v : Value} (h : (cs.drop o).take 1 = [v]) : cs[o]? = some v := by
  have h1 : ((cs.drop o).take 1)[0]? = some v := by rw [h]; rfl
  rw [List.getElem?_take, if_pos (by omega), List.getElem?_drop] at h1
  simpa using h1

section
variable {H : Type} {enc : TypeId × Value → H} {w : World} {base : Nat} {held : Bool}

/-- A drawn writer that came in: opened. -/
theorem seg_of {fuel : Nat} {cs : List Value} {x : DataW H × List MemPlace} {b q : Nat} (h : DataW.trod enc Yba.prog w base (fun _ => true) held fuel 26 cs = some x) (hc : ∀ i, i < 22 → w.cell? ⟨b, q + i, none⟩ = cs[i]?) : Seg w b q := by
  obtain ⟨y0, y1, y2, n, _, hl, k0, k1, k2⟩ := Go.Deep.trod_struct3 Yba.underlying26 h
  rw [Yba.cellsOf26] at hl
  simp only [Yba.cellsOf9] at k0
  simp only [Yba.cellsOf23] at k1
  simp only [Yba.cellsOf24] at k2
  obtain ⟨s, hs, _, hsl⟩ := DataW.trod_string Yba.underlying9 k0
  have c0 : w.cell? ⟨b, q, none⟩ = some (.string s) := by
    have := hc 0 (by omega)
    rw [cut_one hs] at this
    simpa using this
  obtain ⟨xs, m, rfl, _, hl2, hxl, hx⟩ := DataW.trod_array Yba.underlying24 k2
  have hd : ∀ j, j < 20 → ∃ z : Int, w.cell? ⟨b, q + 2 + j, none⟩ = some (.int .u8 z) := by
    intro j hj
    have h1 := hx j hj
    rw [Yba.cellsOf5] at h1
    have hxp : xs[j]? = some xs[j] := List.getElem?_eq_getElem (by omega)
    rw [hxp] at h1
    obtain ⟨z, hz, _, _⟩ := DataW.trod_int Yba.underlying5 h1
    refine ⟨z, ?_⟩
    have h2 := cut_one hz
    rw [List.getElem?_take, if_pos (by omega), List.getElem?_drop] at h2
    rw [show q + 2 + j = q + (2 + j * 1) by omega, hc _ (by omega)]
    exact h2
  obtain ⟨dg, hdg⟩ := Go.Deep.choose_lt (p := fun j (z : Int) => w.cell? ⟨b, q + 2 + j, none⟩ = some (.int .u8 z)) hd
  rcases open_ints Yba.underlying23 Yba.underlying5 Yba.cellsOf5 k1 with ⟨hcs, _⟩ | ⟨a, l, c, zs, hcs, _, hlc, hm, hz, _, hcell, hwz⟩
  · refine ⟨s, none, 0, 0, fun _ => 0, dg, c0, hsl, ?_, by omega, fun j hj => by omega, fun _ => by omega, hdg⟩
    rw [hc 1 (by omega)]; exact cut_one hcs
  · refine ⟨s, some a, l, c, fun j => (zs.getD j 0).toNat % 256, dg, c0, hsl, ?_, by unfold maxLen at hm; omega, fun j hj => ?_, fun j => by omega, hdg⟩
    · rw [hc 1 (by omega)]; exact cut_one hcs
    · have hz' : zs.length = c := by simpa using hz
      have h1 := hcell j (by omega)
      obtain ⟨gb, go, spot⟩ := a
      have hspot : spot = none := by simpa [Addr.add] using World.cell?_spot (hcell 0 (by omega))
      subst hspot
      rw [Addr.add_lit] at h1
      refine ⟨gb, go, rfl, ?_⟩
      rw [h1]
      have hjl : j < zs.length := by omega
      have hb := bounds_u8 (hwz (zs.getD j 0) (by rw [List.getD_eq_getElem?_getD, List.getElem?_eq_getElem hjl]; exact List.getElem_mem hjl))
      congr 2
      omega

/-- The slice of drawn writers that came in: opened. -/
theorem segs_of {a : Option Addr} {n c : Nat} {d : DataW H} {ps : List MemPlace} (h : DataW.Trod enc Yba.prog w base (fun _ => true) held 22 (.slice a n c) d ps) :
    n ≤ 9223372036854775807 ∧ (a = none → n = 0) ∧ ∀ i, i < n → ∃ b o, a = some ⟨b, o, none⟩ ∧ Seg w b (o + i * 22) := by
  obtain ⟨fuel, hf⟩ := h
  rcases Go.Deep.open_slice Yba.underlying22 hf with ⟨hcs, _⟩ | ⟨x, l, cp, m, k, D, Pl, hcs, _, hl, hm, hmm, _, hx⟩
  · simp [Value.cells] at hcs
    obtain ⟨rfl, rfl, rfl⟩ := hcs
    exact ⟨by omega, fun _ => rfl, fun i hi => by omega⟩
  · simp [Value.cells] at hcs
    obtain ⟨rfl, rfl, rfl⟩ := hcs
    simp only [if_true] at hmm
    refine ⟨by unfold maxLen at hm; omega, (fun h => by cases h), fun i hi => ?_⟩
    obtain ⟨b, o, spot⟩ := x
    have hspot : spot = none := by
      obtain ⟨cs, h1, h2⟩ := hx 0 (by omega)
      rw [Yba.cellsOf26] at h1
      obtain ⟨_, hlen, hc⟩ := World.cells?_some h1
      have := hc 0 (by omega)
      have h3 : cs[0]? = some cs[0] := List.getElem?_eq_getElem (by omega)
      rw [h3] at this
      simpa [Addr.add] using World.cell?_spot this
    subst hspot
    obtain ⟨cs, h1, h2⟩ := hx i (by omega)
    rw [Yba.cellsOf26] at h1
    obtain ⟨_, hlen, hc⟩ := World.cells?_some h1
    refine ⟨b, o, rfl, seg_of h2 fun j hj => ?_⟩
    have := hc j hj
    rw [Addr.add_lit, Addr.add_lit] at this
    exact this
end

end Go.Proofs.Ybulkdiba
