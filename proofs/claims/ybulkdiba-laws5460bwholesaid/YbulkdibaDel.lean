import Derived.Test.YbulkdibaPut
namespace Go.Proofs.Ybulkdiba
open Go.RowKit Go.Maps
set_option linter.unusedVariables false

theorem delL_at (k : Nat) : ∀ (L : List (Nat × Nat)) (j : Nat) (hj : j < L.length), (∀ i (hi : i < j), (L[i]'(by omega)).1 ≠ k) → (L[j]).1 = k → delL k L = L.take j ++ L.drop (j + 1)
  | [], j, hj, _, _ => by simp at hj
  | x :: L, 0, hj, _, he => by simp at he; simp [delL, he]
  | x :: L, j + 1, hj, hn, he => by
    have h0 : x.1 ≠ k := hn 0 (by omega)
    simp only [delL, if_neg h0, List.take_succ_cons, List.drop_succ_cons, List.cons_append]
    rw [delL_at k L j (by simpa using hj) (fun i hi => by simpa using hn (i + 1) (by omega)) (by simpa using he)]

theorem delL_none (k : Nat) : ∀ (L : List (Nat × Nat)), (∀ i (hi : i < L.length), (L[i]).1 ≠ k) → delL k L = L
  | [], _ => rfl
  | x :: L, hn => by
    have h0 : x.1 ≠ k := hn 0 (by simp)
    simp only [delL, if_neg h0]
    rw [delL_none k L (fun i hi => by have := hn (i + 1) (by simpa using hi); simpa using this)]

theorem cells_head {w : World} {g j : Nat} {xs : List Value} (hc : ∀ i u, xs[i]? = some u → w.cell? ⟨g, i, none⟩ = some u) {ao : Option Addr} (ha : ao = some ⟨g, 0, none⟩) :
    ∀ ad, ao = some ad → ∀ t u, (xs.take j)[t]? = some u → w.cell? (ad.add t) = some u := by
  rintro ad had t u hu
  rw [ha] at had
  obtain rfl := Option.some.inj had
  rw [Addr.add_lit, Nat.zero_add]
  rw [List.getElem?_take] at hu
  split at hu
  · exact hc t u hu
  · cases hu

theorem cells_tail {w : World} {g j c : Nat} {xs : List Value} (hc : ∀ i u, xs[i]? = some u → w.cell? ⟨g, i, none⟩ = some u) (hl : xs.length ≤ c) {ao : Option Addr} (ha : ¬ c = j → ao = some ⟨g, j, none⟩) :
    ∀ ad, ao = some ad → ∀ t u, (xs.drop j)[t]? = some u → w.cell? (ad.add t) = some u := by
  rintro ad had t u hu
  rw [List.getElem?_drop] at hu
  have := (List.getElem?_eq_some_iff.1 hu).1
  rw [ha (by omega)] at had
  obtain rfl := Option.some.inj had
  rw [Addr.add_lit]
  exact hc (j + t) u hu

theorem one_keys (L : List (Nat × Nat)) : ∀ u ∈ L.map (fun x => Value.int .u8 (x.1 : Int)), u.oneCell' = true := by
  intro u hu; obtain ⟨_, _, rfl⟩ := List.mem_map.1 hu; rfl
theorem one_ptrs (L : List (Nat × Nat)) : ∀ u ∈ L.map (fun x => ptr x.2), u.oneCell' = true := by
  intro u hu; obtain ⟨_, _, rfl⟩ := List.mem_map.1 hu; rfl

theorem owns_base {w : World} {B : Nat} {e : TypeId} {v : Value} {n : Nat} {xs : List Value} (h : w.ownsRow B e 1 v n xs) : w.ownsRow 0 e 1 v n xs := by
  refine ⟨h.1, ?_⟩
  rcases h.2 with h0 | ⟨g, cap, cur, hv, hb, r⟩
  · exact .inl h0
  · exact .inr ⟨g, cap, cur, hv, Nat.zero_le _, r⟩

theorem owns_set {w : World} {B : Nat} {e : TypeId} {v : Value} {n : Nat} {xs : List Value} (h : w.ownsRow B e 1 v n xs) {R : Nat} (hne : ∀ b, v.ownBlock = some b → b ≠ R) (o : Nat) (u : Value) : (w.setCell ⟨R, o, none⟩ u).ownsRow B e 1 v n xs :=
  owns_same h (fun b hb => heap_setCell_other w ⟨R, o, none⟩ b u (hne b hb))

set_option maxHeartbeats 4000000 in
theorem del_any (R k : Nat) (addr : ByteArray) (wp : Option Nat) (kv pv : Value) (dig : Nat → Int) (gone : Bool) (L : List (Nat × Nat)) (w : World)
    (hr : RecAt w R addr wp kv pv dig gone) (hk : KeyRow w kv L) (hp : PtrRow w pv L) (hL : L.length ≤ 1000000) :
    Calls Yba.prog 7 #[ptr R, .int .u8 k] w fun e w' => e = .returned (.tuple #[]) ∧ RecNew w w' R addr wp kv pv dig gone (delL k L) := by
  obtain ⟨i5, hi5, z5, s5, b5⟩ := info_parts Yba.info5
  obtain ⟨i48, hi48, z48, s48, b48⟩ := info_parts Yba.info48
  obtain ⟨ka, kc, rfl, _, hk0, hknc, hkc⟩ := owns_parts hk
  obtain ⟨pa, pc, rfl, _, hp0, hpnc, hpc⟩ := owns_parts hp
  obtain ⟨_, _, r2, r3, _, rf⟩ := hr.cells
  have rf2 := rf 2
  have rf3 := rf 3
  clear rf
  simp only [ptr]
  go_enter Yba.func7, Yba.ntmps7
  go_wp2
  go_loop [4] (fun i => ∃ j : Nat, j ≤ L.length ∧ i = .int .i64 j ∧ ∀ i (hi : i < j) (hl : i < L.length), (L[i]).1 ≠ k) (fun i => L.length - (intOf i).toNat)
  case atStart => exact ⟨0, Nat.zero_le _, rfl, fun i hi => by omega⟩
  case round =>
    obtain ⟨j, hj, rfl, hno⟩ := hrel
    by_cases hlt : j < L.length
    · rcases hkc with hz | ⟨kg, rfl, hkcells⟩
      · omega
      rcases hpc with hz | ⟨pg, rfl, hpcells⟩
      · omega
      have c1 : w.cell? ⟨kg, j, none⟩ = some (.int .u8 (L[j]).1) := hkcells j _ (by simp [hlt])
      have hRlt := hr.lt
      have hklt : kg < w.heap.size := (World.ownsRow.lt hk kg rfl).2
      have hplt : pg < w.heap.size := (World.ownsRow.lt hp pg rfl).2
      by_cases he : (L[j]).1 = k
      · have he' : (((L[j]).1 : Int) == (k : Int)) = true := by rw [he]; simp
        have HL : Hid (delL k L = L.take j ++ L.drop (j + 1)) := delL_at k L j hlt (fun i hi => hno i hi (by omega)) he
        clear hno he
        have facts : ∀ wx, Below w.heap.size w wx → RecAt wx R addr wp (.slice (some ⟨kg, 0, none⟩) L.length kc) (.slice (some ⟨pg, 0, none⟩) L.length pc) dig gone ∧
            (∀ i u, (L.map fun x => Value.int .u8 (x.1 : Int))[i]? = some u → wx.cell? ⟨kg, i, none⟩ = some u) ∧ (∀ i u, (L.map fun x => ptr x.2)[i]? = some u → wx.cell? ⟨pg, i, none⟩ = some u) := fun wx hb =>
          ⟨hr.same (hb.block R hRlt), fun i u hu => (hb.cell (p := ⟨kg, i, none⟩) hklt).trans (hkcells i u hu), fun i u hu => (hb.cell (p := ⟨pg, i, none⟩) hplt).trans (hpcells i u hu)⟩
        clear hkcells hpcells
        go_wp2_with (at_make; refine wpList_make_own _ rfl _ _ 23 rfl w.heap.size 5 i5 (.int .u8 0) 1 Yba.underlying23 hi5 z5 s5 _ _ _ L.length rfl rfl rfl ?b2 ?b3 (Nat.le_refl _) ?_)
        case b2 => first | (rw [b5]; omega) | omega
        case b3 => unfold maxLen; omega
        intro w1 hn1 hg1
        have hb1 : Below w.heap.size w w1 := (Below.refl _ _).grown hg1 (Nat.le_refl _) (fun k h => by cases h)
        obtain ⟨hA, _, _⟩ := facts w1 hb1
        obtain ⟨_, _, a2, a3, _, _⟩ := hA.cells
        have hs1 : w.heap.size < w1.heap.size := (World.ownsRow.lt hn1 w.heap.size rfl).2
        clear hg1 hA
        go_wp2_with (at_make; refine wpList_make_own _ rfl _ _ 45 rfl w1.heap.size 48 i48 (.pointer none) 1 Yba.underlying45 hi48 z48 s48 _ _ _ L.length rfl rfl rfl ?b4 ?b5 (Nat.le_refl _) ?_)
        case b4 => first | (rw [b48]; omega) | omega
        case b5 => unfold maxLen; omega
        intro w2 hm2 hg2
        have hs2 : w1.heap.size < w2.heap.size := (World.ownsRow.lt hm2 w1.heap.size rfl).2
        have hn2 := hn1.kept hg2 (.inr (by simp [Value.ownBlock]))
        have hb2 : Below w.heap.size w w2 := hb1.grown hg2 hb1.size (fun k h => by cases h)
        obtain ⟨hA, hkc2, _⟩ := facts w2 hb2
        obtain ⟨_, _, d2, d3, _, _⟩ := hA.cells
        clear hg2 hn1 hA a2 a3 hb1
        go_wp2_with (at_builtin; refine wpList_append_fits_any _ rfl (.tmp 37) (.tmp 43) 23 rfl w.heap.size 5 i5 1 Yba.underlying23 hi5 s5 w.heap.size 0 L.length _ rfl hn2 _ j _ ((L.map fun x => Value.int .u8 (x.1 : Int)).take j) rfl ?c1 ?c2 ?c3 ?c4 (by omega) ?_)
        case c1 => simp; omega
        case c2 => intro h; simp at h
        case c3 => exact cells_head hkc2 rfl
        case c4 => exact fun u hu => one_keys L u (List.mem_of_mem_take hu)
        intro w3 hn3 hg3
        have hm3 := hm2.kept hg3 (.inr (by simp [Value.ownBlock]; omega))
        have hb3 : Below w.heap.size w w3 := hb2.grown hg3 hb2.size (fun k h => by cases h; exact Nat.le_refl _)
        obtain ⟨hA, hkc3, _⟩ := facts w3 hb3
        obtain ⟨_, _, e2, e3, _, _⟩ := hA.cells
        have hs3 : w1.heap.size < w3.heap.size := Nat.lt_of_lt_of_le hs2 hg3.size
        clear hn2 hm2 hg3 hA d2 d3 hb2 hkc2
        go_wp2_with (at_builtin; refine wpList_append_fits_any _ rfl (.tmp 45) (.tmp 52) 23 rfl w.heap.size 5 i5 1 Yba.underlying23 hi5 s5 w.heap.size j L.length _ rfl hn3 _ (L.length - (j + 1)) _ ((L.map fun x => Value.int .u8 (x.1 : Int)).drop (j + 1)) rfl (by simp) (by intro h; first | cases h | (split at h <;> cases h)) (cells_tail hkc3 (by simpa using hknc) (by intro h; first | rfl | simp [h])) (fun u hu => one_keys L u (List.mem_of_mem_drop hu)) (by omega) ?_)
        all_goals
          intro w4 hn4 hg4
          have e4 : j + (L.length - (j + 1)) = L.length - 1 := by omega
          rw [e4] at hn4 ⊢
          clear e4
          have hm4 := hm3.kept hg4 (.inr (by simp [Value.ownBlock]; omega))
          have hb4 : Below w.heap.size w w4 := hb3.grown hg4 hb3.size (fun k h => by cases h; exact Nat.le_refl _)
          obtain ⟨hA, _, hpc4⟩ := facts w4 hb4
          obtain ⟨_, _, f2, f3, _, _⟩ := hA.cells
          have hs4 : w1.heap.size < w4.heap.size := Nat.lt_of_lt_of_le hs3 hg4.size
          clear hn3 hm3 hg4 hA e2 e3 hb3 hkc3
          go_wp2_with (at_builtin; refine wpList_append_fits_any _ rfl (.tmp 54) (.tmp 60) 45 rfl w1.heap.size 48 i48 1 Yba.underlying45 hi48 s48 w1.heap.size 0 L.length _ rfl hm4 _ j _ ((L.map fun x => ptr x.2).take j) rfl (by simp; omega) (by intro h; simp at h) (cells_head hpc4 rfl) (fun u hu => one_ptrs L u (List.mem_of_mem_take hu)) (by omega) ?_)
          intro w5 hm5 hg5
          have hn5 := hn4.kept hg5 (.inr (by simp [Value.ownBlock]; omega))
          have hb5 : Below w.heap.size w w5 := hb4.grown hg5 hb4.size (fun k h => by cases h; omega)
          obtain ⟨hA, _, hpc5⟩ := facts w5 hb5
          obtain ⟨_, _, g2, g3, _, _⟩ := hA.cells
          have hs5 : w1.heap.size < w5.heap.size := Nat.lt_of_lt_of_le hs4 hg5.size
          clear hm4 hn4 hg5 hA f2 f3 hb4 hpc4
          go_wp2_with (at_builtin; refine wpList_append_fits_any _ rfl (.tmp 62) (.tmp 69) 45 rfl w1.heap.size 48 i48 1 Yba.underlying45 hi48 s48 w1.heap.size j L.length _ rfl hm5 _ (L.length - (j + 1)) _ ((L.map fun x => ptr x.2).drop (j + 1)) rfl (by simp) (by intro h; first | cases h | (split at h <;> cases h)) (cells_tail hpc5 (by simpa using hpnc) (by intro h; first | rfl | simp [h])) (fun u hu => one_ptrs L u (List.mem_of_mem_drop hu)) (by omega) ?_)
          all_goals
            intro w6 hm6 hg6
            have e6 : j + (L.length - (j + 1)) = L.length - 1 := by omega
            rw [e6] at hm6 ⊢
            clear e6
            have hn6 := hn5.kept hg6 (.inr (by simp [Value.ownBlock]; omega))
            have hb6 : Below w.heap.size w w6 := hb5.grown hg6 hb5.size (fun k h => by cases h; omega)
            have hR6 := (facts w6 hb6).1
            obtain ⟨_, _, x2, x3, _, xf⟩ := hR6.cells
            have xf2 := xf 2
            have xf3 := xf 3
            clear xf
            have hR7 := (hR6.setKeys (.slice (some ⟨w.heap.size, 0, none⟩) (L.length - 1) L.length)).setPtrs (.slice (some ⟨w1.heap.size, 0, none⟩) (L.length - 1) L.length)
            have RN : RecNew w ((w6.setCell ⟨R, 2, none⟩ (.slice (some ⟨w.heap.size, 0, none⟩) (L.length - 1) L.length)).setCell ⟨R, 3, none⟩ (.slice (some ⟨w1.heap.size, 0, none⟩) (L.length - 1) L.length)) R addr wp (.slice (some ⟨kg, 0, none⟩) L.length kc) (.slice (some ⟨pg, 0, none⟩) L.length pc) dig gone (delL k L) := by
              have hl' : (L.take j ++ L.drop (j + 1)).length = L.length - 1 := by simp; omega
              rw [HL.out]
              refine ⟨⟨_, _, hR7, ?_, ?_, fun b hb => .inr (by cases hb; exact Nat.le_refl _), fun b hb => .inr (by cases hb; exact Nat.le_of_lt hs1)⟩, ?_⟩
              · unfold KeyRow
                rw [hl', List.map_append, List.map_take, List.map_drop]
                exact owns_set (owns_set (owns_base hn6) (fun b hb => by cases hb; exact Nat.ne_of_gt hRlt) _ _) (fun b hb => by cases hb; exact Nat.ne_of_gt hRlt) _ _
              · unfold PtrRow
                rw [hl', List.map_append, List.map_take, List.map_drop]
                exact owns_set (owns_set (owns_base hm6) (fun b hb => by cases hb; exact Nat.ne_of_gt (Nat.lt_trans hRlt hs1)) _ _) (fun b hb => by cases hb; exact Nat.ne_of_gt (Nat.lt_trans hRlt hs1)) _ _
              · exact (((Fr.of_below hb6 _).trans ((Fr.set _).mono (fun i _ hi => .inl hi))).trans ((Fr.set _).mono (fun i _ hi => .inl hi)))
            clear hm5 hn5 hg6 hm6 hn6 hb5 hpc5 g2 g3 facts hR6 hR7 hb6
            go_wp2
            refine bodyPost_ret (v := .tuple #[]) (by simp [results, Yba.results7]) rfl ⟨rfl, RN⟩
      · have he' : (((L[j]).1 : Int) == (k : Int)) = false := by rw [beq_eq_false_iff_ne]; omega
        have HN : Hid (∀ i (hi : i < j + 1) (hl : i < L.length), (L[i]).1 ≠ k) := fun i hi hl => by
          by_cases e : i = j
          · subst e; exact he
          · exact hno i (by omega) hl
        clear hno hkcells hpcells he
        go_wp2
        go_round
        case rel => exact ⟨j + 1, by omega, by go_num, HN.out⟩
        case measure => simp [intOf]; omega
    · have HL : Hid (delL k L = L) := delL_none k L (fun i hi => hno i (by omega) hi)
      clear hno
      go_wp2
      go_end0
      exact ⟨rfl, by rw [HL.out]; exact ⟨⟨_, _, hr, hk, hp, fun b hb => .inl hb, fun b hb => .inl hb⟩, Fr.refl _ _⟩⟩

end Go.Proofs.Ybulkdiba
