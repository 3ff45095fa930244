import Derived.Test.YbulkdiccSettle
namespace Go.Proofs.Ybulkdicc
open Go.RowKit
set_option linter.unusedVariables false

def endK {α : Type} : Nat → List (Sp α) → Nat
  | lo, [] => lo
  | _, k :: K => endK k.e K
def endF : Nat → List (Nat × Nat) → Nat
  | lo, [] => lo
  | _, m :: F => endF m.2 F

theorem OrdK.snoc {α : Type} {k : Sp α} : ∀ {lo : Nat} {K : List (Sp α)}, OrdK lo K → endK lo K ≤ k.s → k.s < k.e → OrdK lo (K ++ [k]) ∧ endK lo (K ++ [k]) = k.e
  | lo, [], _, h1, h2 => ⟨⟨h1, h2, trivial⟩, rfl⟩
  | lo, q :: K, h, h1, h2 => by
    obtain ⟨a, b⟩ := OrdK.snoc (lo := q.e) h.2.2 h1 h2
    exact ⟨⟨h.1, h.2.1, a⟩, b⟩
theorem OrdF.snoc {k : Nat × Nat} : ∀ {lo : Nat} {K : List (Nat × Nat)}, OrdF lo K → endF lo K ≤ k.1 → k.1 < k.2 → OrdF lo (K ++ [k]) ∧ endF lo (K ++ [k]) = k.2
  | lo, [], _, h1, h2 => ⟨⟨h1, h2, trivial⟩, rfl⟩
  | lo, q :: K, h, h1, h2 => by
    obtain ⟨a, b⟩ := OrdF.snoc (lo := q.2) h.2.2 h1 h2
    exact ⟨⟨h.1, h.2.1, a⟩, b⟩

/-- The first elements of a row are laid. -/
def Fill (k : Nat) {α : Type} (f : α → List Value) (xs : List Value) (K : List α) : Prop := ∀ i (hi : i < K.length) j, j < k → xs[i * k + j]? = (f K[i])[j]?

theorem Fill.nil (k : Nat) {α : Type} (f : α → List Value) (xs : List Value) : Fill k f xs [] := fun i hi => by simp at hi

theorem Fill.done {k n : Nat} {α : Type} {f : α → List Value} {xs : List Value} {K : List α} (hf : ∀ x, (f x).length = k) (h : Fill k f xs K) (hn : K.length = n) (hx : xs.length = n * k) (hk : 0 < k) : xs = K.flatMap f := by
  apply List.ext_getElem?
  intro q
  by_cases hq : q < n * k
  · have h1 : q / k < n := Nat.div_lt_of_lt_mul (by rw [Nat.mul_comm]; exact hq)
    have h2 : q % k < k := Nat.mod_lt _ hk
    have h3 : q / k * k + q % k = q := by rw [Nat.mul_comm]; exact Nat.div_add_mod q k
    have a := h (q / k) (by omega) (q % k) h2
    have b := flat_at f k hf K (q / k) (q % k) (by omega) h2
    rw [h3] at a b
    rw [a, b]
  · rw [List.getElem?_eq_none (by omega), List.getElem?_eq_none (by rw [flat_len f k hf]; rw [hn]; omega)]

theorem Fill.step3 {n : Nat} {xs : List Value} {K : List (Sp Int)} {s : Sp Int} {a b c : Value} (h : Fill 3 spC xs K) (hx : xs.length = n * 3) (hi : K.length < n) (hv : spC s = [a, b, c]) :
    Fill 3 spC (((xs.set (K.length * 3) a).set (K.length * 3 + 1) b).set (K.length * 3 + 2) c) (K ++ [s]) := by
  intro i hi2 j hj
  simp only [List.length_append, List.length_singleton] at hi2
  by_cases e : i < K.length
  · rw [List.getElem?_set_ne (by omega), List.getElem?_set_ne (by omega), List.getElem?_set_ne (by omega), h i e j hj, List.getElem_append_left e]
  · obtain rfl : i = K.length := by omega
    have hg : (K ++ [s])[K.length] = s := by simp
    rw [hg, hv]
    match j, hj with
    | 0, _ => rw [List.getElem?_set_ne (by omega), List.getElem?_set_ne (by omega), Nat.add_zero, List.getElem?_set_self (by rw [hx]; omega)]; rfl
    | 1, _ => rw [List.getElem?_set_ne (by omega), List.getElem?_set_self (by rw [List.length_set, hx]; omega)]; rfl
    | 2, _ => rw [List.getElem?_set_self (by rw [List.length_set, List.length_set, hx]; omega)]; rfl

theorem Fill.step2 {n : Nat} {xs : List Value} {K : List (Nat × Nat)} {s : Nat × Nat} {a b : Value} (h : Fill 2 maC xs K) (hx : xs.length = n * 2) (hi : K.length < n) (hv : maC s = [a, b]) :
    Fill 2 maC ((xs.set (K.length * 2) a).set (K.length * 2 + 1) b) (K ++ [s]) := by
  intro i hi2 j hj
  simp only [List.length_append, List.length_singleton] at hi2
  by_cases e : i < K.length
  · rw [List.getElem?_set_ne (by omega), List.getElem?_set_ne (by omega), h i e j hj, List.getElem_append_left e]
  · obtain rfl : i = K.length := by omega
    have hg : (K ++ [s])[K.length] = s := by simp
    rw [hg, hv]
    match j, hj with
    | 0, _ => rw [List.getElem?_set_ne (by omega), Nat.add_zero, List.getElem?_set_self (by rw [hx]; omega)]; rfl
    | 1, _ => rw [List.getElem?_set_self (by rw [List.length_set, hx]; omega)]; rfl

/-- The drawn pairs of bytes that came in. -/
def Segs (w : World) (a : Option Addr) (n : Nat) : Prop := ∀ i, i < n → ∃ b o, a = some ⟨b, o, none⟩ ∧ ∃ g l : Nat, g < 256 ∧ l < 256 ∧ w.cell? ⟨b, o + i * 2, none⟩ = some (.int .u8 g) ∧ w.cell? ⟨b, o + i * 2 + 1, none⟩ = some (.int .u8 l)

theorem Segs.same {w w' : World} {a : Option Addr} {n : Nat} (h : Segs w a n) (hb : Below w.heap.size w w') : Segs w' a n := fun i hi => by
  obtain ⟨b, o, e, g, l, hg, hl, h0, h1⟩ := h i hi
  have hc : ∀ (x : Addr) (v : Value), w.cell? x = some v → w'.cell? x = some v := fun x v hx => (hb.cell (World.block_lt_of_cell? w _ hx)).trans hx
  exact ⟨b, o, e, g, l, hg, hl, hc _ _ h0, hc _ _ h1⟩

/-- The spans while they are built: block g. -/
structure Bld (B : Nat) (w0 w : World) (g n : Nat) (K : List (Sp Int)) (pos : Nat) : Prop where
  row : ∃ xs, w.ownsRow B 50 3 (.slice (some ⟨g, 0, none⟩) n n) n xs ∧ Fill 3 spC xs K
  ord : OrdK 0 K
  end_ : endK 0 K ≤ pos
  pos_ : pos ≤ 511 * K.length
  bel : Below B w0 w
structure BldF (B : Nat) (w0 w : World) (g n : Nat) (K : List (Nat × Nat)) (pos : Nat) : Prop where
  row : ∃ xs, w.ownsRow B 53 2 (.slice (some ⟨g, 0, none⟩) n n) n xs ∧ Fill 2 maC xs K
  ord : OrdF 0 K
  end_ : endF 0 K ≤ pos
  pos_ : pos ≤ 511 * K.length
  bel : Below B w0 w

theorem owns_base {w : World} {B e s g n c : Nat} {xs : List Value} (h : w.ownsRow B e s (.slice (some ⟨g, 0, none⟩) n c) n xs) : B ≤ g := by
  rcases h.2 with ⟨h', _⟩ | ⟨g', cap', cur, h', hb, _⟩
  · simp at h'
  · simp only [Value.slice.injEq, Option.some.injEq, Addr.mk.injEq, and_true, true_and] at h'
    obtain ⟨rfl, rfl⟩ := h'
    exact hb

/-- What the store into the next place asks. -/
theorem Bld.cells {B : Nat} {w0 w : World} {g n : Nat} {K : List (Sp Int)} {pos : Nat} (h : Bld B w0 w g n K pos) (hi : K.length < n) :
    (∃ v, w.cell? ⟨g, K.length * 3, none⟩ = some v) ∧ (∃ v, w.cell? ⟨g, K.length * 3 + 1, none⟩ = some v) ∧ (∃ v, w.cell? ⟨g, K.length * 3 + 2, none⟩ = some v) ∧ (∀ j, w.frozen? ⟨g, j, none⟩ = false) ∧ g < w.heap.size := by
  obtain ⟨xs, hr, _⟩ := h.row
  have hx := hr.1
  have at_ : ∀ j, j < n * 3 → ∃ v, w.cell? ⟨g, j, none⟩ = some v := fun j hj => ⟨xs[j]'(by omega), by rw [hr.cellAt j hj]; exact List.getElem?_eq_getElem _⟩
  exact ⟨at_ _ (by omega), at_ _ (by omega), at_ _ (by omega), fun j => hr.frozenAt j, srow_lt hr⟩
theorem BldF.cells {B : Nat} {w0 w : World} {g n : Nat} {K : List (Nat × Nat)} {pos : Nat} (h : BldF B w0 w g n K pos) (hi : K.length < n) :
    (∃ v, w.cell? ⟨g, K.length * 2, none⟩ = some v) ∧ (∃ v, w.cell? ⟨g, K.length * 2 + 1, none⟩ = some v) ∧ (∀ j, w.frozen? ⟨g, j, none⟩ = false) ∧ g < w.heap.size := by
  obtain ⟨xs, hr, _⟩ := h.row
  have hx := hr.1
  have at_ : ∀ j, j < n * 2 → ∃ v, w.cell? ⟨g, j, none⟩ = some v := fun j hj => ⟨xs[j]'(by omega), by rw [hr.cellAt j hj]; exact List.getElem?_eq_getElem _⟩
  exact ⟨at_ _ (by omega), at_ _ (by omega), fun j => hr.frozenAt j, srow_lt hr⟩

/-- The next place laid, and a new block. -/
theorem Bld.step {B : Nat} {w0 w : World} {g n : Nat} {K : List (Sp Int)} {pos : Nat} (h : Bld B w0 w g n K pos) (hi : K.length < n) (o : Obj) (s : Sp Int) {x y : Int} (ex : x = (s.s : Int)) (ey : y = (s.e : Int)) (h1 : pos ≤ s.s) (h2 : s.s < s.e) (h3 : s.e ≤ pos + 511) :
    Bld B w0 ((((w.setCell ⟨g, K.length * 3, none⟩ (.int .i64 x)).setCell ⟨g, K.length * 3 + 1, none⟩ (.int .i64 y)).setCell ⟨g, K.length * 3 + 2, none⟩ (opV s.o)).alloc o) g n (K ++ [s]) s.e := by
  obtain ⟨xs, hr, hf⟩ := h.row
  have hx := hr.1
  have hBg := owns_base hr
  have hsz : B ≤ w.heap.size := by have := srow_lt hr; omega
  obtain ⟨r1, g1⟩ := hr.stored (K.length * 3) (.int .i64 x)
  obtain ⟨r2, g2⟩ := r1.stored (K.length * 3 + 1) (.int .i64 y)
  obtain ⟨r3, g3⟩ := r2.stored (K.length * 3 + 2) (opV s.o)
  obtain ⟨o1, o2⟩ := h.ord.snoc (k := s) (by have := h.end_; omega) h2
  have hp := h.pos_
  have hb1 := h.bel.grown g1 hsz (fun k hk => by cases hk; exact hBg)
  have hb2 := hb1.grown g2 (by simp; omega) (fun k hk => by cases hk; exact hBg)
  have hb3 := hb2.grown g3 (by simp; omega) (fun k hk => by cases hk; exact hBg)
  exact ⟨⟨_, r3.alloc o, hf.step3 hx hi (by rw [ex, ey]; rfl)⟩, o1, by rw [o2]; exact Nat.le_refl _, by simp; omega, hb3.alloc (by simp; omega) o⟩
theorem BldF.step {B : Nat} {w0 w : World} {g n : Nat} {K : List (Nat × Nat)} {pos : Nat} (h : BldF B w0 w g n K pos) (hi : K.length < n) (o : Obj) (s : Nat × Nat) {x y : Int} (ex : x = (s.1 : Int)) (ey : y = (s.2 : Int)) (h1 : pos ≤ s.1) (h2 : s.1 < s.2) (h3 : s.2 ≤ pos + 511) :
    BldF B w0 (((w.setCell ⟨g, K.length * 2, none⟩ (.int .i64 x)).setCell ⟨g, K.length * 2 + 1, none⟩ (.int .i64 y)).alloc o) g n (K ++ [s]) s.2 := by
  obtain ⟨xs, hr, hf⟩ := h.row
  have hx := hr.1
  have hBg := owns_base hr
  have hsz : B ≤ w.heap.size := by have := srow_lt hr; omega
  obtain ⟨r1, g1⟩ := hr.stored (K.length * 2) (.int .i64 x)
  obtain ⟨r2, g2⟩ := r1.stored (K.length * 2 + 1) (.int .i64 y)
  obtain ⟨o1, o2⟩ := h.ord.snoc (k := s) (by have := h.end_; omega) h2
  have hp := h.pos_
  have hb1 := h.bel.grown g1 hsz (fun k hk => by cases hk; exact hBg)
  have hb2 := hb1.grown g2 (by simp; omega) (fun k hk => by cases hk; exact hBg)
  exact ⟨⟨_, r2.alloc o, hf.step2 hx hi (by rw [ex, ey]; rfl)⟩, o1, by rw [o2]; exact Nat.le_refl _, by simp; omega, hb2.alloc (by simp; omega) o⟩

theorem Bld.done {B : Nat} {w0 w : World} {g n : Nat} {K : List (Sp Int)} {pos : Nat} (h : Bld B w0 w g n K pos) (hn : K.length = n) : SRow w B (.slice (some ⟨g, 0, none⟩) n n) K := by
  obtain ⟨xs, hr, hf⟩ := h.row
  have := hf.done spC_len hn hr.1 (by omega)
  unfold SRow
  rw [← this, hn]; exact hr
theorem BldF.done {B : Nat} {w0 w : World} {g n : Nat} {K : List (Nat × Nat)} {pos : Nat} (h : BldF B w0 w g n K pos) (hn : K.length = n) : MRow w B (.slice (some ⟨g, 0, none⟩) n n) K := by
  obtain ⟨xs, hr, hf⟩ := h.row
  have := hf.done maC_len hn hr.1 (by omega)
  unfold MRow
  rw [← this, hn]; exact hr

theorem insL_len (op : Int) (K : List (Sp Int)) (F : List (Nat × Nat)) : (insL op K F).length ≤ F.length := by
  unfold insL
  rw [List.length_map]
  exact List.length_filter_le _ _
theorem insL_skip {op : Int} {K : List (Sp Int)} {F : List (Nat × Nat)} {j p : Nat} (hj : j < F.length) (hp : p < K.length) (h : ov (F[j]) (K[p]) = true) : insL op K (F.take (j + 1)) = insL op K (F.take j) := by
  have h1 : K.any (ov F[j]) = true := List.any_eq_true.2 ⟨K[p], List.getElem_mem hp, h⟩
  unfold insL
  rw [List.take_succ_eq_append_getElem hj, List.filter_append, List.map_append]
  simp [h1]
theorem insL_put {op : Int} {K : List (Sp Int)} {F : List (Nat × Nat)} {j : Nat} (hj : j < F.length) (h : ∀ k ∈ K, ov (F[j]) k = false) : insL op K (F.take (j + 1)) = insL op K (F.take j) ++ [⟨(F[j]).1, (F[j]).2, op⟩] := by
  have h1 : K.any (ov F[j]) = false := List.any_eq_false.2 fun k hk => by simp [h k hk]
  unfold insL
  rw [List.take_succ_eq_append_getElem hj, List.filter_append, List.map_append]
  simp [h1]
theorem no_step {m : Nat × Nat} {K : List (Sp Int)} {p : Nat} (hp : p < K.length) (h : ∀ k ∈ K.take p, ov m k = false) (h1 : ov m K[p] = false) : ∀ k ∈ K.take (p + 1), ov m k = false := by
  intro k hk
  rw [List.take_succ_eq_append_getElem hp] at hk
  rcases List.mem_append.1 hk with hk | hk
  · exact h k hk
  · rw [List.mem_singleton.1 hk]; exact h1

theorem owns_own {w : World} {B e s n : Nat} {v : Value} {xs : List Value} (h : w.ownsRow B e s v n xs) {k : Nat} (hk : v.ownBlock = some k) : B ≤ k := by
  rcases h.2 with ⟨rfl, _⟩ | ⟨g, cap, cur, rfl, hb, _⟩
  · cases hk
  · cases hk; exact hb
theorem snoc_any {w : World} {B : Nat} {v : Value} {out : List (Sp Int)} {k : Sp Int} (h : w.ownsRow B 50 3 v (out.length + 1) (out.flatMap spC ++ spC k)) : SRow w B v (out ++ [k]) := by
  unfold SRow
  rw [List.length_append, List.flatMap_append]
  simpa using h

/-- Nothing below C has turned: a row in a block below C is as it was. -/
theorem owns_low {w w' : World} {B C e s g n c m : Nat} {xs : List Value} (h : w.ownsRow B e s (.slice (some ⟨g, 0, none⟩) n c) m xs) (hb : Below C w w') (hg : g < C) : w'.ownsRow B e s (.slice (some ⟨g, 0, none⟩) n c) m xs := by
  refine ⟨h.1, ?_⟩
  rcases h.2 with h0 | ⟨g', cap, cur, hv, hB, hgc, rest⟩
  · exact .inl h0
  · simp only [Value.slice.injEq, Option.some.injEq, Addr.mk.injEq, and_true] at hv
    obtain ⟨rfl, rfl, rfl⟩ := hv
    exact .inr ⟨_, _, cur, rfl, hB, (hb.block _ hg).trans hgc, rest⟩

end Go.Proofs.Ybulkdicc
