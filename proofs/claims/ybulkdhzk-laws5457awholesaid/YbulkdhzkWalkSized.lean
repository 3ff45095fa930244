import Derived.Test.YbulkdhzkParts
namespace Go.Proofs.Ybulkdhzk
open Go.RowKit

theorem owns_le {w : World} {B B' : Nat} {e : TypeId} {v : Value} {n : Nat} {xs : List Value} (h : w.ownsRow B e 1 v n xs) (hB : B' ≤ B) : w.ownsRow B' e 1 v n xs := by
  refine ⟨h.1, ?_⟩
  rcases h.2 with h0 | ⟨g, cap, cur, hv, hb, r⟩
  · exact .inl h0
  · exact .inr ⟨g, cap, cur, hv, Nat.le_trans hB hb, r⟩

theorem rd_cells {w : World} {a : Option Addr} {n : Nat} {zs : List Int} (h : Rd w a n zs) : ∀ b, a = some b → ∀ j u, (zs.map (Value.int .u8))[j]? = some u → w.cell? (b.add j) = some u := by
  intro b hb j u hj
  obtain ⟨hl, h0 | ⟨b', o, ha, hc⟩⟩ := h
  · have := (List.getElem?_eq_some_iff.1 hj).1
    simp [hl, h0] at this
  · rw [ha] at hb
    obtain rfl := Option.some.inj hb
    have hj' : j < n := by have := (List.getElem?_eq_some_iff.1 hj).1; simpa [hl] using this
    rw [Addr.add_lit, hc j hj', ← hj]
    simp [List.getD, show j < zs.length by omega]

set_option maxHeartbeats 1000000 in
theorem app16 (a : Option Addr) (n : Nat) (v : Int) (zs : List Int) (w : World) (ha : Rd w a n zs) (h0 : a = none → n = 0) (hn : n ≤ 1048576) (hv0 : 0 ≤ v) (hv1 : v < 65536) :
    Calls Yba.prog 12 #[.agg #[], .slice a n n, .int .u16 v] w fun e w' => ∃ v', e = .returned v' ∧ w'.ownsRow w.heap.size 5 1 v' (n + 2) ((zs ++ [v / 256, v % 256]).map (Value.int .u8)) ∧ Below w.heap.size w w' := by
  obtain ⟨i0, hi, hz0, hz1, hz2⟩ := info_parts Yba.info5
  go_enter Yba.func12, Yba.ntmps12
  go_wp2_with (at_builtin; refine wpList_append_grows _ rfl _ _ 22 rfl 5 i0 (.int .u8 0) 1 1 Yba.underlying22 hi hz0 hz1 hz2 rfl (by decide) a n n (zs.map (Value.int .u8)) rfl ?c0 ?c00 ?c01 _ 2 2 [Value.int .u8 (v / 256), Value.int .u8 (v % 256)] rfl rfl ?c1 ?c2 ?c3 ?c4 ?c5 ?_)
  case c0 => exact fun h => ⟨h0 h, h0 h⟩
  case c00 => simp [ha.1]
  case c01 => exact rd_cells (ha.below (((Below.refl _ _).alloc (Nat.le_refl _) _).alloc (by simp) _) (Nat.le_refl _))
  case c1 =>
    intro j u hj
    match j, hj with
    | 0, hj => simp at hj; subst hj; simp [Addr.add]
    | 1, hj => simp at hj; subst hj; simp [Addr.add]
  case c2 => intro u hu; simp at hu; rcases hu with rfl | rfl <;> rfl
  case c3 => omega
  case c4 => unfold maxLen; omega
  case c5 => omega
  intro v' w2 hown' hgrow
  go_wp2
  go_ret
  refine ⟨v', rfl, ?_, (((Below.refl _ _).alloc (Nat.le_refl _) _).alloc (by simp) _).grown hgrow (by simp; omega) (fun k hk => by cases hk)⟩
  have hsz : w.heap.size ≤ w.heap.size + 1 + 1 := by omega
  have h3 := owns_le (B' := w.heap.size) hown' (by first | omega | (simp; done) | (simp; omega) | exact hsz)
  simpa using h3

theorem u16_wrap (m : Nat) : IntKind.u16.wrap (m : Int) = (m : Int) % 65536 := by
  exact IntKind.wrap_u16 _

set_option maxHeartbeats 1000000 in
/-- appendSized: what comes back lies in new memory. -/
theorem sized_any (a d : Option Addr) (n m c : Nat) (zs ys : List Int) (w : World) (ha : Rd w a n zs) (hd : Rd w d m ys) (h0 : a = none → n = 0) (h1 : d = none → m = 0) (h2 : d = none → c = 0) (hn : n ≤ 1048576) (hm : m ≤ 1048576) :
    Calls Yba.prog 6 #[.slice a n n, .slice d m c] w fun e w' => ∃ v', e = .returned v' ∧ w'.ownsRow w.heap.size 5 1 v' (n + 2 + m) ((zs ++ [(m : Int) % 65536 / 256, (m : Int) % 65536 % 256] ++ ys).map (Value.int .u8)) ∧ Below w.heap.size w w' := by
  obtain ⟨i0, hi, hz0, hz1, hz2⟩ := info_parts Yba.info5
  go_enter Yba.func6, Yba.ntmps6
  go_wp2_with fail
  rw [u16_wrap]
  refine (app16 a n ((m : Int) % 65536) zs w ha h0 hn (by omega) (by omega)).mono ?_
  rintro e w1 ⟨v1, rfl, hown1, hb1⟩
  go_wp2_with (at_builtin; refine wpList_append_any _ rfl _ _ 22 rfl w.heap.size 5 i0 (.int .u8 0) 1 1 Yba.underlying22 hi hz0 hz1 hz2 rfl (by decide) _ _ _ rfl hown1 d m c (ys.map (Value.int .u8)) rfl (fun h => ⟨h1 h, h2 h⟩) ?c0 ?c1 ?c2 ?c4 ?c5 ?c6 ?_)
  case c0 => simp [hd.1]
  case c1 => exact rd_cells (hd.below hb1 (Nat.le_refl _))
  case c2 => exact ints_oneCell _ _
  case c4 => unfold maxLen; omega
  case c5 => omega
  case c6 => exact hb1.size
  intro v2 w2 hown2 hgrow2
  go_wp2
  go_ret
  exact ⟨v2, rfl, by simpa using hown2, hb1.grown hgrow2 hb1.size (fun k hk => (hown1.lt k hk).1)⟩

theorem sized_at (a d : Option Addr) (n m c : Nat) (zs ys : List Int) (w : World) (ha : Rd w a n zs) (hd : Rd w d m ys) (h0 : a = none → n = 0) (h1 : d = none → m = 0) (h2 : d = none → c = 0) (hn : n ≤ 1048576) (hm : m ≤ 1048576) :
    Calls Yba.prog 6 #[.slice a n n, .slice d m c] w fun e w' => ∃ g cap, e = .returned (.slice (some ⟨g, 0, none⟩) (n + 2 + m) cap) ∧ w'.ownsRow w.heap.size 5 1 (.slice (some ⟨g, 0, none⟩) (n + 2 + m) cap) (n + 2 + m) ((zs ++ [(m : Int) % 65536 / 256, (m : Int) % 65536 % 256] ++ ys).map (Value.int .u8)) ∧ Below w.heap.size w w' := by
  refine (sized_any a d n m c zs ys w ha hd h0 h1 h2 hn hm).mono ?_
  rintro e w' ⟨v, rfl, hown, hb⟩
  rcases hown.2 with ⟨_, h⟩ | ⟨g, cap, cur, rfl, _⟩
  · omega
  · exact ⟨g, cap, rfl, hown, hb⟩

end Go.Proofs.Ybulkdhzk
