import Derived.Test.YbulkdibaEnt
namespace Go.Proofs.Ybulkdiba
open Go.RowKit Go.Maps
set_option linter.unusedVariables false

section
variable {B : Nat} {w w' : World} {I mE mW : Nat} {rv : Value} {G : List Rec} {WL : List (ByteArray × Nat)}

theorem St.getW (h : St B w I mE mW rv G WL) (a : ByteArray) : getL a (wl G) = (look a G).map (·.s.W) := getL_look a _ G
theorem getR (G : List Rec) (a : ByteArray) : getL a (fl G) = (look a G).map (·.R) := getL_look a _ G

theorem wl_map (f : Rec → Rec) (h : ∀ r ∈ G, (f r).addr = r.addr ∧ (f r).s.W = r.s.W) : wl (G.map f) = wl G := by
  unfold wl
  rw [List.map_map]
  exact List.map_congr_left fun r hr => by simp [(h r hr).1, (h r hr).2]

/-- The drawn entry is placed. -/
theorem St.placed (h : St B w I mE mW rv G (wl G)) (hcl : Clean G) {r r' : Rec} (hr : r ∈ G) (hf : Fr r.blk w w') (ha : r'.addr = r.addr) (hR : r'.R = r.R) (hW : r'.s.W = r.s.W) (hb : ∀ x, r'.blk x → r.blk x ∨ w.heap.size ≤ x) (hk : RecOk w' r')
    (hc : r'.gone = false ∧ r'.dig = r'.s.d ∧ r'.L = r'.s.L ∧ r'.wp = some r'.s.W) : ∃ G1, St B w' I mE mW rv G1 (wl G1) ∧ Clean G1 ∧ G1.length = G.length := by
  refine ⟨G.map fun q => if q.addr = r.addr then r' else q, ?_, ?_, List.length_map _⟩
  rotate_left
  · intro p hp
    obtain ⟨q, hq, rfl⟩ := List.mem_map.1 hp
    by_cases e : q.addr = r.addr
    · simp only [e, if_true]; exact hc
    · simp only [e, if_false]; exact hcl q hq
  · rw [wl_map]
    · exact h.one hr hf r' ha hR hb hk
    · intro q hq
      by_cases e : q.addr = r.addr
      · rw [if_pos e, h.uniq hq hr e]; exact ⟨ha, hW⟩
      · rw [if_neg e]; exact ⟨rfl, rfl⟩
end

/-- A record, its parts turned. -/
structure Turn (r : Rec) (w w' : World) (kv pv : Value) (L : List (Nat × Nat)) (d : Nat → Int) (g : Bool) : Prop where
  rc : RecAt w' r.R r.addr r.wp kv pv d g
  ks : KeyRow w' kv L
  ps : PtrRow w' pv L
  lk : Loc w r.kv kv
  lp : Loc w r.pv pv
  fr : Fr (fun b => b = r.R ∨ r.kv.ownBlock = some b ∨ r.pv.ownBlock = some b) w w'

theorem Turn.ofNew {r : Rec} {w w' : World} {L : List (Nat × Nat)} {d : Nat → Int} {g : Bool} (h : RecNew w w' r.R r.addr r.wp r.kv r.pv d g L) : ∃ kv pv, Turn r w w' kv pv L d g := by
  obtain ⟨⟨kv, pv, h1, h2, h3, h4, h5⟩, h6⟩ := h
  exact ⟨kv, pv, h1, h2, h3, h4, h5, h6⟩

theorem RecAt.toggled {w w' : World} {R k : Nat} {addr : ByteArray} {wp : Option Nat} {kv pv : Value} {d : Nat → Int} {g : Bool} {cs : Array Value} (h : cs.size = 25 ∧ cs[0]? = some (.string addr) ∧ cs[1]? = some (ptrO wp) ∧ cs[2]? = some kv ∧ cs[3]? = some pv ∧ cs[24]? = some (.bool g)) (ht : Toggled w w' R 47 4 cs d k) : RecAt w' R addr wp kv pv (xorD d k) g := by
  obtain ⟨⟨cs', h1, h2, h3, h4⟩, _⟩ := ht
  obtain ⟨k1, k2, k3, k4, k5, k6⟩ := h
  exact ⟨cs', h1, by rw [h2, k1], by rw [h4 0 (by omega)]; exact k2, by rw [h4 1 (by omega)]; exact k3, by rw [h4 2 (by omega)]; exact k4, by rw [h4 3 (by omega)]; exact k5, h3, by rw [h4 24 (by omega)]; exact k6⟩

theorem Turn.step {r : Rec} {w w1 w2 : World} {kv pv : Value} {L : List (Nat × Nat)} {d d' : Nat → Int} {g g' : Bool} (h : Turn r w w1 kv pv L d g) (hf : Fr (fun i => i = r.R) w1 w2) (hr : RecAt w2 r.R r.addr r.wp kv pv d' g') : Turn r w w2 kv pv L d' g' := by
  have hR := h.rc
  refine ⟨hr, owns_same h.ks (fun b hb => hf.block b (owns_lt h.ks hb) ?_), owns_same h.ps (fun b hb => hf.block b (owns_lt h.ps hb) ?_), h.lk, h.lp, h.fr.trans (hf.mono fun i _ hi => .inl hi)⟩
  · obtain ⟨ds, hd⟩ := owns_type h.ks hb
    obtain ⟨cs, hc, _⟩ := hR
    exact types_ne hd hc (by decide)
  · obtain ⟨ds, hd⟩ := owns_type h.ps hb
    obtain ⟨cs, hc, _⟩ := hR
    exact types_ne hd hc (by decide)

theorem Turn.ok {r : Rec} {w w' : World} {kv pv : Value} {L : List (Nat × Nat)} {d : Nat → Int} {g : Bool} (h : Turn r w w' kv pv L d g) (hr : RecOk w r) : RecOk w' { r with kv := kv, pv := pv, L := L, dig := d, gone := g } := by
  have nn : ∀ x, (∀ ds, w.heap[x]? ≠ some (.cells ds 47 (0, 0))) → (∀ ds, w.heap[x]? ≠ some (.cells ds 5 (0, 0))) → (∀ ds, w.heap[x]? ≠ some (.cells ds 48 (0, 0))) → ¬ (x = r.R ∨ r.kv.ownBlock = some x ∨ r.pv.ownBlock = some x) := by
    intro x h1 h2 h3
    rintro (e | e | e)
    · obtain ⟨ds, hd, _⟩ := hr.rc; rw [← e] at hd; exact h1 _ hd
    · obtain ⟨ds, hd⟩ := owns_type hr.ks e; exact h2 _ hd
    · obtain ⟨ds, hd⟩ := owns_type hr.ps e; exact h3 _ hd
  refine ⟨h.rc, h.ks, h.ps, hr.wr.same (h.fr.block _ hr.wr.1.lt ?_) (h.fr.block _ (by have := MapG.lt hr.wr.2; exact this) ?_)⟩
  · obtain ⟨⟨cs, hc, _⟩, _⟩ := hr.wr
    exact nn _ (fun ds hd => types_ne hc hd (by decide) rfl) (fun ds hd => types_ne hc hd (by decide) rfl) (fun ds hd => types_ne hc hd (by decide) rfl)
  · exact nn _ (fun ds hd => cells_ne_map hd hr.wr.2 rfl) (fun ds hd => cells_ne_map hd hr.wr.2 rfl) (fun ds hd => cells_ne_map hd hr.wr.2 rfl)

/-- One record of the model is turned. -/
theorem St.turned {B : Nat} {w w' : World} {I mE mW : Nat} {rv : Value} {G : List Rec} {WL : List (ByteArray × Nat)} (h : St B w I mE mW rv G WL) {r : Rec} (hr : r ∈ G) {kv pv : Value} {L : List (Nat × Nat)} {d : Nat → Int} {g : Bool} (hT : Turn r w w' kv pv L d g) :
    (∃ f : Rec → Rec, St B w' I mE mW rv (G.map f) WL ∧ ∀ q ∈ G, (f q).addr = q.addr ∧ (f q).R = q.R ∧ (f q).wp = q.wp ∧ (f q).s = q.s ∧ (f q).L = (if q.addr = r.addr then L else q.L) ∧ (f q).dig = (if q.addr = r.addr then d else q.dig) ∧ (f q).gone = (if q.addr = r.addr then g else q.gone)) ∧ Fr r.blk w w' := by
  have hfr : Fr r.blk w w' := hT.fr.mono fun i _ hi => by
    rcases hi with e | e | e
    · exact .inl e
    · exact .inr (.inl e)
    · exact .inr (.inr (.inl e))
  refine ⟨⟨_, h.one hr hfr { r with kv := kv, pv := pv, L := L, dig := d, gone := g } rfl rfl ?_ (hT.ok (h.all r hr)), ?_⟩, hfr⟩
  · rintro x (e | e | e | e | e)
    · exact .inl (.inl e)
    · rcases hT.lk x e with e | e
      · exact .inl (.inr (.inl e))
      · exact .inr e
    · rcases hT.lp x e with e | e
      · exact .inl (.inr (.inr (.inl e)))
      · exact .inr e
    · exact .inl (.inr (.inr (.inr (.inl e))))
    · exact .inl (.inr (.inr (.inr (.inr e))))
  · intro q hq
    by_cases e : q.addr = r.addr
    · have := h.uniq hq hr e
      subst this
      simp
    · simp [e]

theorem made_rec0 {w5 wA : World} {addr : ByteArray} (h : w5.alloc (Obj.cells #[Value.string addr, Value.pointer none, Value.slice none 0 0, Value.slice none 0 0, Value.int IntKind.u8 0, Value.int IntKind.u8 0, Value.int IntKind.u8 0, Value.int IntKind.u8 0, Value.int IntKind.u8 0, Value.int IntKind.u8 0, Value.int IntKind.u8 0, Value.int IntKind.u8 0, Value.int IntKind.u8 0, Value.int IntKind.u8 0, Value.int IntKind.u8 0, Value.int IntKind.u8 0, Value.int IntKind.u8 0, Value.int IntKind.u8 0, Value.int IntKind.u8 0, Value.int IntKind.u8 0, Value.int IntKind.u8 0, Value.int IntKind.u8 0, Value.int IntKind.u8 0, Value.int IntKind.u8 0, Value.bool false] 47) = wA) :
    RecAt wA w5.heap.size addr none (.slice none 0 0) (.slice none 0 0) (fun _ => 0) false ∧ KeyRow wA (.slice none 0 0) [] ∧ PtrRow wA (.slice none 0 0) [] ∧ Fr (fun _ => False) w5 wA := by
  subst h
  refine ⟨⟨#[Value.string addr, Value.pointer none, Value.slice none 0 0, Value.slice none 0 0, Value.int IntKind.u8 0, Value.int IntKind.u8 0, Value.int IntKind.u8 0, Value.int IntKind.u8 0, Value.int IntKind.u8 0, Value.int IntKind.u8 0, Value.int IntKind.u8 0, Value.int IntKind.u8 0, Value.int IntKind.u8 0, Value.int IntKind.u8 0, Value.int IntKind.u8 0, Value.int IntKind.u8 0, Value.int IntKind.u8 0, Value.int IntKind.u8 0, Value.int IntKind.u8 0, Value.int IntKind.u8 0, Value.int IntKind.u8 0, Value.int IntKind.u8 0, Value.int IntKind.u8 0, Value.int IntKind.u8 0, Value.bool false], heap_alloc_new _ _, rfl, rfl, rfl, rfl, rfl, ?_, rfl⟩, ⟨rfl, .inl ⟨rfl, rfl⟩⟩, ⟨rfl, .inl ⟨rfl, rfl⟩⟩, (Fr.refl _ _).alloc _⟩
  · intro i hi
    match i, hi with
    | 0, _ => rfl
    | 1, _ => rfl
    | 2, _ => rfl
    | 3, _ => rfl
    | 4, _ => rfl
    | 5, _ => rfl
    | 6, _ => rfl
    | 7, _ => rfl
    | 8, _ => rfl
    | 9, _ => rfl
    | 10, _ => rfl
    | 11, _ => rfl
    | 12, _ => rfl
    | 13, _ => rfl
    | 14, _ => rfl
    | 15, _ => rfl
    | 16, _ => rfl
    | 17, _ => rfl
    | 18, _ => rfl
    | 19, _ => rfl
    | n + 20, h => exact absurd h (by omega)


/-! ### What the model says -/
def mL (eid E : Nat) (eby by_ : ByteArray) (r : Rec) : List (Nat × Nat) := if eby = by_ then r.L else if r.addr = eby then delL eid r.L else if r.addr = by_ ∧ by_.size ≠ 0 then putL eid E r.L else r.L
def mD (eid : Nat) (eby by_ : ByteArray) (r : Rec) : Nat → Int := if eby = by_ then r.dig else if r.addr = eby then xorD r.dig eid else if r.addr = by_ ∧ by_.size ≠ 0 then xorD r.dig eid else r.dig
def mG (eid : Nat) (eby by_ : ByteArray) (r : Rec) : Bool := decide (eby ≠ by_ ∧ r.addr = eby ∧ delL eid r.L = [])
def ModRec (eid E : Nat) (eby by_ : ByteArray) (r r' : Rec) : Prop :=
  r'.addr = r.addr ∧ r'.R = r.R ∧ r'.wp = r.wp ∧ r'.s = r.s ∧ r'.L = mL eid E eby by_ r ∧ r'.dig = mD eid eby by_ r ∧ r'.gone = mG eid eby by_ r

structure NewRec (eid E : Nat) (by_ : ByteArray) (c : Rec) (w : World) : Prop where
  addr : c.addr = by_
  wp : c.wp = none
  gone : c.gone = false
  dig : c.dig = xorD (fun _ => 0) eid
  L : c.L = [(eid, E)]
  rc : RecAt w c.R c.addr c.wp c.kv c.pv c.dig c.gone
  ks : KeyRow w c.kv c.L
  ps : PtrRow w c.pv c.L

structure Mod (B : Nat) (w0 : World) (I mE mW : Nat) (rv : Value) (G : List Rec) (eid E : Nat) (eby by_ : ByteArray) (G2 : List Rec) (cr : Option Rec) (w : World) : Prop where
  st : St B w I mE mW rv G2 (wl G)
  ent : EntAt w E eid eby
  f : ∃ f, G2 = G.map f ∧ ∀ r ∈ G, ModRec eid E eby by_ r (f r)
  new : ∀ c, cr = some c → NewRec eid E by_ c w ∧ by_.size ≠ 0 ∧ eby ≠ by_ ∧ look by_ G = none
  no : cr = none → eby = by_ ∨ by_.size = 0 ∨ look by_ G ≠ none
  bel : Below B w0 w

theorem Mod.same {B : Nat} {w0 w : World} {I mE mW : Nat} {rv : Value} {G : List Rec} {eid E : Nat} {eby by_ : ByteArray} (h : St B w I mE mW rv G (wl G)) (hcl : Clean G) (hE : EntAt w E eid eby) (hb : Below B w0 w) (he : eby = by_) : Mod B w0 I mE mW rv G eid E eby by_ G none w := by
  refine ⟨h, hE, ⟨id, by simp, fun r hr => ⟨rfl, rfl, rfl, rfl, by simp [mL, he], by simp [mD, he], ?_⟩⟩, (fun c hc => by cases hc), fun _ => .inl he, hb⟩
  simp [mG, he, (hcl r hr).1]

/-- Behind the first half of the model. -/
structure Mod1 (B : Nat) (w0 : World) (I mE mW : Nat) (rv : Value) (G : List Rec) (eid E : Nat) (eby : ByteArray) (G2 : List Rec) (w : World) : Prop where
  st : St B w I mE mW rv G2 (wl G)
  ent : EntAt w E eid eby
  f : ∃ f, G2 = G.map f ∧ ∀ r ∈ G, (f r).addr = r.addr ∧ (f r).R = r.R ∧ (f r).wp = r.wp ∧ (f r).s = r.s ∧ (f r).L = (if r.addr = eby then delL eid r.L else r.L) ∧ (f r).dig = (if r.addr = eby then xorD r.dig eid else r.dig) ∧ (f r).gone = decide (r.addr = eby ∧ delL eid r.L = [])
  bel : Below B w0 w

theorem Mod1.lack {B : Nat} {w0 w : World} {I mE mW : Nat} {rv : Value} {G : List Rec} {eid E : Nat} {eby : ByteArray} (h : St B w I mE mW rv G (wl G)) (hcl : Clean G) (hE : EntAt w E eid eby) (hb : Below B w0 w) (hl : look eby G = none) : Mod1 B w0 I mE mW rv G eid E eby G w := by
  refine ⟨h, hE, ⟨id, by simp, fun r hr => ?_⟩, hb⟩
  have := look_none hl r hr
  exact ⟨rfl, rfl, rfl, rfl, by simp [this], by simp [this], by simp [this, (hcl r hr).1]⟩

theorem Mod1.lost {B : Nat} {w0 w w' : World} {I mE mW : Nat} {rv : Value} {G : List Rec} {eid E : Nat} {eby : ByteArray} (h : St B w I mE mW rv G (wl G)) (hcl : Clean G) (hE : EntAt w E eid eby) (hb : Below B w0 w) {r : Rec} (hr : r ∈ G) (ha : r.addr = eby) {kv pv : Value} (hT : Turn r w w' kv pv (delL eid r.L) (xorD r.dig eid) (decide (delL eid r.L = []))) : ∃ G2, Mod1 B w0 I mE mW rv G eid E eby G2 w' := by
  obtain ⟨⟨f, hst, hf⟩, hfr⟩ := h.turned hr hT
  refine ⟨_, hst, hE.same (hfr.block _ hE.lt (by obtain ⟨cs, hc, _⟩ := hE; exact (h.all r hr).nblk hc (by decide))), ⟨f, rfl, fun q hq => ?_⟩, hb.trans (hfr.below h.size (h.low.2.2.2.2 r hr))⟩
  obtain ⟨h1, h2, h3, h4, h5, h6, h7⟩ := hf q hq
  rw [ha] at h5 h6 h7
  refine ⟨h1, h2, h3, h4, ?_, ?_, ?_⟩
  · rw [h5]; by_cases e : q.addr = eby
    · rw [if_pos e, if_pos e, h.uniq hq hr (e.trans ha.symm)]
    · rw [if_neg e, if_neg e]
  · rw [h6]; by_cases e : q.addr = eby
    · rw [if_pos e, if_pos e, h.uniq hq hr (e.trans ha.symm)]
    · rw [if_neg e, if_neg e]
  · rw [h7]; by_cases e : q.addr = eby
    · rw [if_pos e, h.uniq hq hr (e.trans ha.symm)]; simp [ha]
    · rw [if_neg e, (hcl q hq).1]; simp [e]

/-- No new writer is named. -/
theorem Mod1.nob {B : Nat} {w0 w : World} {I mE mW : Nat} {rv : Value} {G G2 : List Rec} {eid E : Nat} {eby by_ : ByteArray} (h : Mod1 B w0 I mE mW rv G eid E eby G2 w) (hne : eby ≠ by_) (hb : by_.size = 0) : Mod B w0 I mE mW rv G eid E eby by_ G2 none w := by
  obtain ⟨f, h1, h2⟩ := h.f
  refine ⟨h.st, h.ent, ⟨f, h1, fun r hr => ?_⟩, (fun c hc => by cases hc), fun _ => .inr (.inl hb), h.bel⟩
  obtain ⟨k1, k2, k3, k4, k5, k6, k7⟩ := h2 r hr
  exact ⟨k1, k2, k3, k4, by rw [k5]; simp [mL, hne, hb], by rw [k6]; simp [mD, hne, hb], by rw [k7]; simp [mG, hne]⟩

/-- The new writer is there. -/
theorem Mod1.had {B : Nat} {w0 w w' : World} {I mE mW : Nat} {rv : Value} {G G2 : List Rec} {eid E : Nat} {eby by_ : ByteArray} (h : Mod1 B w0 I mE mW rv G eid E eby G2 w) (hne : eby ≠ by_) (hb : by_.size ≠ 0) {r : Rec} (hr : r ∈ G2) (ha : r.addr = by_) (hG : look by_ G ≠ Option.none) {kv pv : Value}
    (hT : Turn r w w' kv pv (putL eid E r.L) (xorD r.dig eid) r.gone) : ∃ G3, Mod B w0 I mE mW rv G eid E eby by_ G3 Option.none w' := by
  obtain ⟨f, h1, h2⟩ := h.f
  obtain ⟨⟨g, hst, hg⟩, hfr⟩ := h.st.turned hr hT
  refine ⟨_, hst, h.ent.same (hfr.block _ h.ent.lt (by obtain ⟨cs, hc, _⟩ := h.ent; exact (h.st.all r hr).nblk hc (by decide))), ⟨g ∘ f, by rw [h1, List.map_map], fun q hq => ?_⟩, (fun c hc => by cases hc), fun _ => .inr (.inr hG), h.bel.trans (hfr.below h.st.size (h.st.low.2.2.2.2 r hr))⟩
  obtain ⟨k1, k2, k3, k4, k5, k6, k7⟩ := h2 q hq
  have hfq : f q ∈ G2 := by rw [h1]; exact List.mem_map.2 ⟨q, hq, rfl⟩
  obtain ⟨p1, p2, p3, p4, p5, p6, p7⟩ := hg (f q) hfq
  rw [ha, k1] at p5 p6 p7
  refine ⟨p1.trans k1, p2.trans k2, p3.trans k3, p4.trans k4, ?_, ?_, ?_⟩
  · show (g (f q)).L = _
    rw [p5]
    by_cases e : q.addr = by_
    · have e2 : q.addr ≠ eby := fun e' => hne (e'.symm.trans e)
      have hq2 : f q = r := h.st.uniq hfq hr (by rw [k1, e, ha])
      rw [if_pos e, ← hq2, k5, if_neg e2]
      simp [mL, hne, hb, e, Ne.symm hne]
    · rw [if_neg e, k5]; simp [mL, hne, e]
  · show (g (f q)).dig = _
    rw [p6]
    by_cases e : q.addr = by_
    · have e2 : q.addr ≠ eby := fun e' => hne (e'.symm.trans e)
      have hq2 : f q = r := h.st.uniq hfq hr (by rw [k1, e, ha])
      rw [if_pos e, ← hq2, k6, if_neg e2]
      simp [mD, hne, hb, e, Ne.symm hne]
    · rw [if_neg e, k6]; simp [mD, hne, e]
  · show (g (f q)).gone = _
    rw [p7]
    have e3 : (f q).gone = mG eid eby by_ q := by rw [k7]; simp [mG, hne]
    by_cases e : q.addr = by_
    · have hq2 : f q = r := h.st.uniq hfq hr (by rw [k1, e, ha])
      rw [if_pos e, ← hq2]; exact e3
    · rw [if_neg e]; exact e3

/-- A new record is made for the new writer. -/
theorem Mod1.fresh {B : Nat} {w0 w w' : World} {I mE mW : Nat} {rv : Value} {G G2 : List Rec} {eid E : Nat} {eby by_ : ByteArray} (h : Mod1 B w0 I mE mW rv G eid E eby G2 w) (hne : eby ≠ by_) (hb : by_.size ≠ 0) (hG : look by_ G = Option.none) {c : Rec}
    (hc : NewRec eid E by_ c w') (hfr : Fr (fun _ => False) w w') : Mod B w0 I mE mW rv G eid E eby by_ G2 (Option.some c) w' := by
  obtain ⟨f, h1, h2⟩ := h.f
  refine ⟨h.st.keep hfr, h.ent.same (hfr.block _ h.ent.lt (fun h => h)), ⟨f, h1, fun r hr => ?_⟩, fun c' hc' => by cases hc'; exact ⟨hc, hb, hne, hG⟩, fun hn => (by cases hn), h.bel.trans (hfr.below h.st.size (fun _ h => h.elim))⟩
  obtain ⟨k1, k2, k3, k4, k5, k6, k7⟩ := h2 r hr
  have e : r.addr ≠ by_ := look_none hG r hr
  exact ⟨k1, k2, k3, k4, by rw [k5]; simp [mL, hne, e], by rw [k6]; simp [mD, hne, e], by rw [k7]; simp [mG, hne]⟩

theorem look_mem {a : ByteArray} : ∀ {G : List Rec} {r : Rec}, r ∈ G → r.addr = a → look a G ≠ none
  | [], r, hr, _ => by cases hr
  | q :: G, r, hr, ha => by
    intro hn
    exact look_none hn r hr ha

end Go.Proofs.Ybulkdiba
