import Derived.Test.YbulkdibaMem
namespace Go.Proofs.Ybulkdiba
open Go.RowKit Go.Maps
set_option linter.unusedVariables false

/-- The key is at place j for the first time: the element there is turned. -/
theorem putL_at (k p : Nat) : ∀ (L : List (Nat × Nat)) (j : Nat) (hj : j < L.length), (∀ i (hi : i < j), (L[i]'(by omega)).1 ≠ k) → (L[j]).1 = k → putL k p L = L.set j (k, p)
  | [], j, hj, _, _ => by simp at hj
  | x :: L, 0, hj, _, he => by simp at he; simp [putL, he]
  | x :: L, j + 1, hj, hn, he => by
    have h0 : x.1 ≠ k := hn 0 (by omega)
    simp only [putL, if_neg h0, List.set_cons_succ]
    rw [putL_at k p L j (by simpa using hj) (fun i hi => by simpa using hn (i + 1) (by omega)) (by simpa using he)]

theorem putL_none (k p : Nat) : ∀ (L : List (Nat × Nat)), (∀ i (hi : i < L.length), (L[i]).1 ≠ k) → putL k p L = L ++ [(k, p)]
  | [], _ => rfl
  | x :: L, hn => by
    have h0 : x.1 ≠ k := hn 0 (by simp)
    simp only [putL, if_neg h0, List.cons_append]
    rw [putL_none k p L (fun i hi => by have := hn (i + 1) (by simpa using hi); simpa using this)]

theorem row_set {w : World} {v : Value} {L : List (Nat × Nat)} {g c j : Nat} (h : PtrRow w (.slice (some ⟨g, 0, none⟩) L.length c) L) (hj : j < L.length) (k p : Nat) :
    PtrRow (w.setCell ⟨g, j, none⟩ (ptr p)) (.slice (some ⟨g, 0, none⟩) L.length c) (L.set j (k, p)) := by
  unfold PtrRow at h ⊢
  rw [List.length_set]
  refine ⟨by simp, ?_⟩
  rcases h.2 with ⟨h0, _⟩ | ⟨g', cap, cur, hv, hB, hg, hnc, hcm, hcs, htake⟩
  · cases h0
  · simp only [Value.slice.injEq, Option.some.injEq, Addr.mk.injEq, and_true, true_and] at hv
    obtain ⟨rfl, rfl⟩ := hv
    refine .inr ⟨g, c, _, rfl, hB, heap_setCell_same w g j cur 48 _ hg, hnc, hcm, by simpa using hcs, ?_⟩
    rw [Array.toList_setIfInBounds, Nat.mul_one, List.take_set, List.map_set]
    rw [Nat.mul_one] at htake
    rw [htake]

theorem key_of_ne {w : World} {R g : Nat} {e : TypeId} {cs : Array Value} {v : Value} {n : Nat} {xs : List Value} (hR : w.heap[R]? = some (.cells cs 47 (0, 0))) (h : w.ownsRow 0 e 1 v n xs) (hv : v.ownBlock = some g) (he : e ≠ 47) : g ≠ R := by
  rintro rfl
  obtain ⟨cs', h'⟩ := owns_type h hv
  rw [hR] at h'
  simp at h'
  exact he h'.2.symm

theorem rows_ne {w : World} {g g' : Nat} {kv pv : Value} {n m : Nat} {xs ys : List Value} (h : w.ownsRow 0 5 1 kv n xs) (h' : w.ownsRow 0 48 1 pv m ys) (hk : kv.ownBlock = some g) (hp : pv.ownBlock = some g') : g ≠ g' := by
  rintro rfl
  obtain ⟨c1, h1⟩ := owns_type h hk
  obtain ⟨c2, h2⟩ := owns_type h' hp
  rw [h1] at h2
  simp at h2

set_option maxHeartbeats 2000000 in
theorem put_any (R k p : Nat) (addr : ByteArray) (wp : Option Nat) (kv pv : Value) (dig : Nat → Int) (gone : Bool) (L : List (Nat × Nat)) (w : World)
    (hr : RecAt w R addr wp kv pv dig gone) (hk : KeyRow w kv L) (hp : PtrRow w pv L) (hL : L.length ≤ 1000000) :
    Calls Yba.prog 6 #[ptr R, .int .u8 k, ptr p] w fun e w' => e = .returned (.tuple #[]) ∧ RecNew w w' R addr wp kv pv dig gone (putL k p L) := by
  obtain ⟨i5, hi5, z5, s5, b5⟩ := info_parts Yba.info5
  obtain ⟨i48, hi48, z48, s48, b48⟩ := info_parts Yba.info48
  obtain ⟨ka, kc, rfl, _, hk0, hknc, hkc⟩ := owns_parts hk
  obtain ⟨pa, pc, rfl, _, hp0, hpnc, hpc⟩ := owns_parts hp
  obtain ⟨_, _, r2, r3, _, rf⟩ := hr.cells
  have rf2 := rf 2
  have rf3 := rf 3
  clear rf
  simp only [ptr]
  go_enter Yba.func6, Yba.ntmps6
  go_wp2
  go_loop [6] (fun i => ∃ j : Nat, j ≤ L.length ∧ i = .int .i64 j ∧ ∀ i (hi : i < j) (hl : i < L.length), (L[i]).1 ≠ k) (fun i => L.length - (intOf i).toNat)
  case atStart => exact ⟨0, Nat.zero_le _, rfl, fun i hi => by omega⟩
  case round =>
    obtain ⟨j, hj, rfl, hno⟩ := hrel
    by_cases hlt : j < L.length
    · rcases hkc with hz | ⟨kg, rfl, hkcells⟩
      · omega
      rcases hpc with hz | ⟨pg, rfl, hpcells⟩
      · omega
      have c1 : w.cell? ⟨kg, j, none⟩ = some (.int .u8 (L[j]).1) := hkcells j _ (by simp [hlt])
      have c2 : w.cell? ⟨pg, j, none⟩ = some (ptr (L[j]).2) := hpcells j _ (by simp [hlt])
      have c3 : w.frozen? ⟨pg, j, none⟩ = false := World.ownsRow.frozenAt hp j
      by_cases he : (L[j]).1 = k
      · have he' : (((L[j]).1 : Int) == (k : Int)) = true := by rw [he]; simp
        have HL : Hid (putL k p L = L.set j (k, p)) := putL_at k p L j hlt (fun i hi => hno i hi (by omega)) he
        have HE : Hid ((L[j]).1 = k) := he
        clear hno hkcells hpcells he
        have hpgR : pg ≠ R := by obtain ⟨cs, hR, _⟩ := hr; exact key_of_ne hR hp rfl (by decide)
        have hkp : kg ≠ pg := rows_ne hk hp rfl rfl
        go_wp2
        refine bodyPost_ret (v := .tuple #[]) (by simp [results, Yba.results6]) rfl ⟨rfl, ⟨_, _, hr.same (heap_setCell_other _ _ _ _ (by exact Ne.symm hpgR)), ?_, ?_, fun b hb => .inl hb, fun b hb => .inl hb⟩, ?_⟩
        · rw [HL.out]
          unfold KeyRow
          have hk2 := owns_same hk (w' := w.setCell ⟨pg, j, none⟩ (ptr p)) (fun b hb => by cases hb; exact heap_setCell_other _ _ _ _ (by exact hkp))
          rw [List.length_set]
          have e : (L.set j (k, p)).map (fun x => Value.int .u8 (x.1 : Int)) = L.map (fun x => Value.int .u8 (x.1 : Int)) := by
            rw [List.map_set]
            apply List.ext_getElem?
            intro i
            rw [List.getElem?_set]
            by_cases hij : j = i
            · subst hij; simp [hlt, HE.out]
            · rw [if_neg hij]
          rw [e]; exact hk2
        · rw [HL.out]
          have := row_set (v := .pointer none) hp hlt k p
          unfold PtrRow at this ⊢
          rw [List.length_set] at this ⊢
          exact this
        · exact (Fr.set _).mono (fun i _ hi => .inr (.inr (by rw [hi]; rfl)))
      · have he' : (((L[j]).1 : Int) == (k : Int)) = false := by rw [beq_eq_false_iff_ne]; omega
        have HN : Hid (∀ i (hi : i < j + 1) (hl : i < L.length), (L[i]).1 ≠ k) := fun i hi hl => by
          by_cases e : i = j
          · subst e; exact he
          · exact hno i (by omega) hl
        clear hno hkcells hpcells he
        go_wp2
        go_round
        case rel => exact ⟨j + 1, by omega, by go_num, HN.out⟩
        case measure => simp [intOf]; omega
    · have HL : Hid (putL k p L = L ++ [(k, p)]) := putL_none k p L (fun i hi => hno i (by omega) hi)
      clear hno
      have hkb : ∀ b, (Value.slice ka L.length kc).ownBlock = some b → b ≠ R := fun b hb => by obtain ⟨cs, hR, _⟩ := hr; exact key_of_ne hR hk hb (by decide)
      have hpb : ∀ b, (Value.slice pa L.length pc).ownBlock = some b → b ≠ R := fun b hb => by obtain ⟨cs, hR, _⟩ := hr; exact key_of_ne hR hp hb (by decide)
      go_wp2_with (at_builtin; refine wpList_append_own_at _ rfl (.tmp 36) (.tmp 38) 23 rfl 0 5 i5 (.int .u8 0) 1 1 Yba.underlying23 hi5 z5 s5 b5 rfl (by decide) _ _ _ rfl (World.ownsRow.alloc hk _) ⟨w.heap.size, 0, none⟩ 1 1 [.int .u8 k] rfl rfl (cell_one_new _ _ _) (ints_oneCell .u8 [(k : Int)]) (by unfold maxLen; omega) (by omega) (by simp) ?_)
      intro v1 w1 hk1 hg1 _ hl1
      obtain ⟨ka1, kc1, rfl, _, _, _, _⟩ := owns_parts hk1
      have hR1 : RecAt w1 R addr wp (.slice ka L.length kc) (.slice pa L.length pc) dig gone :=
        hr.same (by rw [hg1.block R (by simp; have := hr.lt; omega) (fun e => hkb R e.symm rfl), Below.heap_alloc _ _ _ hr.lt])
      obtain ⟨_, _, q2, q3, _, qf⟩ := hR1.cells
      have qf2 := qf 2
      have qf3 := qf 3
      have hR2 := hR1.setKeys (.slice ka1 (L.length + 1) kc1)
      have hplt : ∀ b, (Value.slice pa L.length pc).ownBlock = some b → b < w.heap.size := fun b hb => (World.ownsRow.lt hp b hb).2
      have hp1 : w1.ownsRow 0 48 1 (.slice pa L.length pc) L.length (L.map fun x => ptr x.2) := owns_same hp (fun b hb => by
        rw [hg1.block b (by simp; have := hplt b hb; omega) (fun e => rows_ne hk hp e.symm hb rfl), Below.heap_alloc _ _ _ (hplt b hb)])
      have hp2 : (w1.setCell ⟨R, 2, none⟩ (.slice ka1 (L.length + 1) kc1)).ownsRow 0 48 1 (.slice pa L.length pc) L.length (L.map fun x => ptr x.2) :=
        owns_same hp1 (fun b hb => heap_setCell_other _ _ _ _ (by exact hpb b hb))
      have hk1R : ∀ b, (Value.slice ka1 (L.length + 1) kc1).ownBlock = some b → b ≠ R := fun b hb => by obtain ⟨cs, hR, _⟩ := hR1; exact key_of_ne hR hk1 hb (by decide)
      have hk2 : (w1.setCell ⟨R, 2, none⟩ (.slice ka1 (L.length + 1) kc1)).ownsRow 0 5 1 (.slice ka1 (L.length + 1) kc1) (L.length + 1) (L.map (fun x => Value.int .u8 (x.1 : Int)) ++ [.int .u8 k]) :=
        owns_same hk1 (fun b hb => heap_setCell_other _ _ _ _ (by exact hk1R b hb))
      have hf2 : Fr (fun b => b = R ∨ (Value.slice ka L.length kc).ownBlock = some b ∨ (Value.slice pa L.length pc).ownBlock = some b) w (w1.setCell ⟨R, 2, none⟩ (.slice ka1 (L.length + 1) kc1)) :=
        ((((Fr.refl _ w).alloc _).trans ((Fr.of_grown hg1).mono (fun i _ hi => .inr (.inl hi))))).trans ((Fr.set _).mono (fun i _ hi => .inl hi))
      have hl1' : Loc w (.slice ka L.length kc) (.slice ka1 (L.length + 1) kc1) := fun b hb => by
        rcases hl1 with e | e
        · exact .inl (e ▸ hb)
        · rw [e] at hb; simp at hb; exact .inr (by omega)
      have hs1 : w.heap.size < w1.heap.size := by have := hg1.size; simp at this; omega
      clear hk1 hg1 hl1 hp1 hk1R hR1
      go_wp2_with (at_builtin; refine wpList_append_own_at _ rfl (.tmp 46) (.tmp 48) 45 rfl 0 48 i48 (.pointer none) 1 8 Yba.underlying45 hi48 z48 s48 b48 rfl (by decide) _ _ _ rfl (World.ownsRow.alloc hp2 _) _ 1 1 [.pointer (some ⟨p, 0, none⟩)] rfl rfl ?c1 ?c2 (by unfold maxLen; omega) (by omega) (by simp) ?_)
      case c1 =>
        have h := cell_one_new (w1.setCell ⟨R, 2, none⟩ (.slice ka1 (L.length + 1) kc1)) (.pointer (some ⟨p, 0, none⟩)) 48
        have hs : (w1.setCell ⟨R, 2, none⟩ (.slice ka1 (L.length + 1) kc1)).heap.size = w1.heap.size := by simp [World.setCell]
        rw [hs] at h
        exact h
      case c2 => intro u hu; simp at hu; subst hu; rfl
      intro v3 w3 hp3 hg3 _ hl3
      obtain ⟨pa3, pc3, rfl, _, _, _, _⟩ := owns_parts hp3
      have hsz2 : (w1.setCell ⟨R, 2, none⟩ (.slice ka1 (L.length + 1) kc1)).heap.size = w1.heap.size := by simp [World.setCell]
      have hR3 : RecAt w3 R addr wp (.slice ka1 (L.length + 1) kc1) (.slice pa L.length pc) dig gone :=
        hR2.same (by rw [hg3.block R (by simp [hsz2]; have := hR2.lt; omega) (fun e => hpb R e.symm rfl), Below.heap_alloc _ _ _ hR2.lt])
      obtain ⟨_, _, t2, t3, _, tf⟩ := hR3.cells
      have tf3 := tf 3
      clear tf
      have hp3R : ∀ b, (Value.slice pa3 (L.length + 1) pc3).ownBlock = some b → b ≠ R := fun b hb => by obtain ⟨cs, hR, _⟩ := hR3; exact key_of_ne hR hp3 hb (by decide)
      have hk2lt : ∀ b, (Value.slice ka1 (L.length + 1) kc1).ownBlock = some b → b < (w1.setCell ⟨R, 2, none⟩ (.slice ka1 (L.length + 1) kc1)).heap.size := fun b hb => (World.ownsRow.lt hk2 b hb).2
      have hk3 : w3.ownsRow 0 5 1 (.slice ka1 (L.length + 1) kc1) (L.length + 1) (L.map (fun x => Value.int .u8 (x.1 : Int)) ++ [.int .u8 k]) := owns_same hk2 (fun b hb => by
        rw [hg3.block b (by have := hk2lt b hb; simp; simp at this; omega) (fun e => rows_ne hk2 hp2 hb e.symm rfl), Below.heap_alloc _ _ _ (hk2lt b hb)])
      have hk3R : ∀ b, (Value.slice ka1 (L.length + 1) kc1).ownBlock = some b → b ≠ R := fun b hb => by obtain ⟨cs, hR, _⟩ := hR3; exact key_of_ne hR hk3 hb (by decide)
      have RN : RecNew w (w3.setCell ⟨R, 3, none⟩ (.slice pa3 (L.length + 1) pc3)) R addr wp (.slice ka L.length kc) (.slice pa L.length pc) dig gone (putL k p L) := by
        rw [HL.out]
        refine ⟨⟨_, _, hR3.setPtrs _, ?_, ?_, hl1', ?_⟩, ?_⟩
        · unfold KeyRow
          have := owns_same hk3 (w' := w3.setCell ⟨R, 3, none⟩ (.slice pa3 (L.length + 1) pc3)) (fun b hb => heap_setCell_other _ _ _ _ (by exact hk3R b hb))
          simpa using this
        · unfold PtrRow
          have := owns_same hp3 (w' := w3.setCell ⟨R, 3, none⟩ (.slice pa3 (L.length + 1) pc3)) (fun b hb => heap_setCell_other _ _ _ _ (by exact hp3R b hb))
          simpa [ptr] using this
        · intro b hb
          rcases hl3 with e | e
          · exact .inl (e ▸ hb)
          · rw [e] at hb; simp at hb; exact .inr (by omega)
        · exact ((hf2.alloc _).trans ((Fr.of_grown hg3).mono (fun i _ hi => .inr (.inr hi)))).trans ((Fr.set _).mono (fun i _ hi => .inl hi))
      clear hk3 hp3 hg3 hl3 hk2 hp2 hR3 hR2 hf2 hk2lt hp3R hk3R hkb hpb hplt
      go_wp2
      go_end0
      exact ⟨rfl, RN⟩

end Go.Proofs.Ybulkdiba
