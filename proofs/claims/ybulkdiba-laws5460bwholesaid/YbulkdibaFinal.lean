import Derived.Test.YbulkdibaModel
namespace Go.Proofs.Ybulkdiba
open Go.RowKit Go.Maps
set_option linter.unusedVariables false

/-- What the law's last loop looks at. -/
structure Fin (w : World) (I mE mW : Nat) (GA : List Rec) (WL : List (ByteArray × Nat)) (created : Option Nat) : Prop where
  idx : IdxAt w I mE mW
  me : MapI w mE []
  map : MapS w mW WL
  all : ∀ r ∈ GA, RecOk w r
  val : ∀ r ∈ GA, r.L = r.s.L ∧ r.dig = r.s.d ∧ r.addr.size ≤ maxLen ∧ getL r.addr WL = (if r.gone then none else some r.s.W) ∧ (r.wp = some r.s.W ∨ created = some r.R)
  cnt : WL.length = (GA.filter (fun r => !r.gone)).length

theorem Fin.below {w w' : World} {I mE mW : Nat} {GA : List Rec} {WL : List (ByteArray × Nat)} {created : Option Nat} (h : Fin w I mE mW GA WL created) (hb : Below w.heap.size w w') : Fin w' I mE mW GA WL created :=
  ⟨h.idx.same (hb.block _ h.idx.lt), MapG.same h.me (hb.block _ (MapG.lt h.me)), MapG.same h.map (hb.block _ (MapG.lt h.map)), fun r hr => (h.all r hr).below hb (Nat.le_refl _), h.val, h.cnt⟩

theorem look_self {a : ByteArray} : ∀ {G : List Rec} {r : Rec}, (G.map (·.addr)).Nodup → r ∈ G → r.addr = a → look a G = some r
  | [], r, _, hr, _ => by cases hr
  | q :: G, r, hn, hr, ha => by
    simp only [List.map_cons, List.nodup_cons] at hn
    simp only [look]
    rcases List.mem_cons.1 hr with rfl | hr
    · rw [if_pos ha]
    · rw [if_neg (fun e => hn.1 (List.mem_map.2 ⟨r, hr, ha.trans e.symm⟩))]
      exact look_self hn.2 hr ha

theorem getL_self {a : ByteArray} {G : List Rec} {r : Rec} (hn : (G.map (·.addr)).Nodup) (hr : r ∈ G) (ha : r.addr = a) : getL a (wl G) = some r.s.W := by
  show getL a (G.map fun r => (r.addr, r.s.W)) = _
  rw [getL_look, look_self hn hr ha]; rfl

/-- Nothing is gone where nothing has been taken. -/
theorem Mod.fin0 {B : Nat} {w0 w : World} {I mE mW : Nat} {rv : Value} {G G2 : List Rec} {eid E : Nat} {eby by_ : ByteArray} {cr : Option Rec} (h : Mod B w0 I mE mW rv G eid E eby by_ G2 cr w) (hcl : Clean G) (hn : (G.map (·.addr)).Nodup) (he : eby = by_) : Fin w I mE mW G2 (wl G) none := by
  obtain ⟨f, rfl, hf⟩ := h.f
  refine ⟨h.st.idx, h.st.me, h.st.map, h.st.all, fun r hr => ?_, ?_⟩
  · have hlen := h.st.len r hr
    obtain ⟨q, hq, rfl⟩ := List.mem_map.1 hr
    obtain ⟨f1, f2, f3, f4, f5, f6, f7⟩ := hf q hq
    obtain ⟨c1, c2, c3, c4⟩ := hcl q hq
    have hg : (f q).gone = false := by rw [f7]; simp [mG, he]
    refine ⟨by rw [f5, f4]; simp [mL, he, c3], by rw [f6, f4]; simp [mD, he, c2], hlen, ?_, .inl (by rw [f3, f4, c4])⟩
    rw [hg, f1, f4]; simpa using getL_self hn hq rfl
  · have e : (G.map f).filter (fun r => !r.gone) = G.map f := by
      rw [List.filter_eq_self]
      intro r hr
      obtain ⟨q, hq, rfl⟩ := List.mem_map.1 hr
      have : (f q).gone = false := by rw [(hf q hq).2.2.2.2.2.2]; simp [mG, he]
      simp [this]
    rw [e]; simp [wl]

theorem delL_wl {a : ByteArray} : ∀ {G : List Rec}, (G.map (·.addr)).Nodup → delL a (wl G) = wl (G.filter fun r => decide (r.addr ≠ a))
  | [], _ => rfl
  | q :: G, hn => by
    simp only [List.map_cons, List.nodup_cons] at hn
    by_cases e : q.addr = a
    · have h1 : (G.filter fun r => decide (r.addr ≠ a)) = G := by
        rw [List.filter_eq_self]
        intro r hr
        simp only [decide_eq_true_eq]
        intro e'
        exact hn.1 (List.mem_map.2 ⟨r, hr, e'.trans e.symm⟩)
      rw [List.filter_cons_of_neg (by simp [e]), h1]
      simp [wl, delL, e]
    · rw [List.filter_cons_of_pos (by simp [e])]
      have ih := delL_wl (a := a) hn.2
      simp only [wl, List.map_cons, delL, if_neg e] at ih ⊢
      rw [ih]

/-- The writers' map behind the first half, and who is gone. -/
theorem old_count {G : List Rec} {eid : Nat} {eby : ByteArray} (hn : (G.map (·.addr)).Nodup) (hcl : Clean G) :
    (oldWL ((look eby G).map (·.s)) eid eby (wl G)).length = (G.filter fun r => !decide (r.addr = eby ∧ delL eid r.L = [])).length ∧
    ∀ r ∈ G, getL r.addr (oldWL ((look eby G).map (·.s)) eid eby (wl G)) = if decide (r.addr = eby ∧ delL eid r.L = []) then none else some r.s.W := by
  cases hl : look eby G with
  | none =>
    have h1 := look_none hl
    simp only [Option.map_none, oldWL]
    refine ⟨?_, fun r hr => ?_⟩
    · rw [List.filter_eq_self.2 (fun r hr => by simp [h1 r hr])]; simp [wl]
    · rw [getL_self hn hr rfl]; simp [h1 r hr]
  | some q =>
    obtain ⟨hq, hqa⟩ := look_some hl
    have hu : ∀ r ∈ G, r.addr = eby → r = q := fun r hr e => by
      have := look_self hn hr e
      rw [hl] at this; exact (Option.some.inj this).symm
    have hqL := (hcl q hq).2.2.1
    simp only [Option.map_some, oldWL]
    by_cases hd : delL eid q.s.L = []
    · rw [if_pos hd]
      have hdec : ∀ r ∈ G, decide (r.addr = eby ∧ delL eid r.L = []) = decide (r.addr = eby) := by
        intro r hr
        by_cases e : r.addr = eby
        · rw [hu r hr e, hqL]; simp [hd]
        · simp [e]
      refine ⟨?_, fun r hr => ?_⟩
      · rw [delL_wl hn]
        simp only [wl, List.length_map]
        congr 1
        apply List.filter_congr
        intro r hr
        rw [hdec r hr]; simp
      · rw [hdec r hr]
        by_cases e : r.addr = eby
        · have h1 : getL eby (delL eby (wl G)) = none := (getL_none_iff eby _).2 (delL_not eby (wl G) (by simpa [wl, List.map_map, Function.comp_def] using hn))
          rw [e, h1]; simp
        · rw [getL_del_other e, getL_self hn hr rfl]; simp [e]
    · rw [if_neg hd]
      have hdec : ∀ r ∈ G, decide (r.addr = eby ∧ delL eid r.L = []) = false := by
        intro r hr
        by_cases e : r.addr = eby
        · rw [hu r hr e, hqL]; simp [hd]
        · simp [e]
      refine ⟨?_, fun r hr => ?_⟩
      · rw [List.filter_eq_self.2 (fun r hr => by simp only [hdec r hr]; rfl)]; simp [wl]
      · rw [getL_self hn hr rfl, hdec r hr]; simp

/-- A block that is no map's, no writer's and no entry's is as it was. -/
theorem attr_not {old new : Option WrS} {by_ : ByteArray} {mW E : Nat} {w : World} {WL : List (ByteArray × Nat)} {k : Nat} {b : ByteArray} (hm : MapS w mW WL) (hE : EntAt w E k b) (ho : ∀ s, old = some s → WrOk w s) (hn : ∀ s, new = some s → WrOk w s)
    {x : Nat} {cs : Array Value} {t : TypeId} (hx : w.heap[x]? = some (.cells cs t (0, 0))) (ht : t ≠ 44 ∧ t ≠ 57) : ¬ attrFr old new by_ mW E x := by
  rintro ((e | ⟨s, hs, e | e⟩) | e | ⟨_, s, hs, e | e⟩)
  · exact cells_ne_mapS hx hm e
  · obtain ⟨⟨ds, hd, _⟩, _⟩ := ho s hs; exact types_ne hx hd ht.1 e
  · exact cells_ne_map hx (ho s hs).2 e
  · obtain ⟨ds, hd, _⟩ := hE; exact types_ne hx hd ht.2 e
  · obtain ⟨⟨ds, hd, _⟩, _⟩ := hn s hs; exact types_ne hx hd ht.1 e
  · exact cells_ne_map hx (hn s hs).2 e

/-- What 'attribute' asks of the writers. -/
theorem Mod.pre {B : Nat} {w0 w : World} {I mE mW : Nat} {rv : Value} {G G2 : List Rec} {eid E : Nat} {eby by_ : ByteArray} {cr : Option Rec} (h : Mod B w0 I mE mW rv G eid E eby by_ G2 cr w) (hne : eby ≠ by_) :
    (∀ s, (look eby G).map (·.s) = some s → WrOk w s ∧ s.M ≠ mW) ∧
    (∀ s, (look by_ G).map (·.s) = some s → WrOk w s ∧ s.M ≠ mW ∧ s.L.length < maxLen ∧ ∀ t, (look eby G).map (·.s) = some t → s.W ≠ t.W ∧ s.M ≠ t.M) := by
  obtain ⟨f, hG, hf⟩ := h.f
  have hk : ∀ a s, (look a G).map (·.s) = some s → ∃ r ∈ G, r.addr = a ∧ r.s = s ∧ f r ∈ G2 ∧ (f r).s = s ∧ (f r).addr = a := by
    intro a s hs
    cases hl : look a G with
    | none => rw [hl] at hs; cases hs
    | some r =>
      rw [hl] at hs
      simp only [Option.map_some, Option.some.injEq] at hs
      obtain ⟨hr, ha⟩ := look_some hl
      refine ⟨r, hr, ha, hs, by rw [hG]; exact List.mem_map.2 ⟨r, hr, rfl⟩, by rw [(hf r hr).2.2.2.1]; exact hs, by rw [(hf r hr).1]; exact ha⟩
  have hw : ∀ r ∈ G2, WrOk w r.s ∧ r.s.M ≠ mW := fun r hr => ⟨(h.st.all r hr).wr, fun e => h.st.notW hr (e ▸ .inr (.inr (.inr (.inr rfl))))⟩
  refine ⟨fun s hs => ?_, fun s hs => ?_⟩
  · obtain ⟨r, _, _, _, hm, he, _⟩ := hk _ s hs
    rw [← he]; exact hw _ hm
  · obtain ⟨r, _, _, _, hm, he, ha⟩ := hk _ s hs
    have := hw _ hm
    rw [he] at this
    refine ⟨this.1, this.2, by have := MapI.few this.1.2; unfold maxLen; omega, fun t ht => ?_⟩
    obtain ⟨q, _, _, _, hm2, he2, ha2⟩ := hk _ t ht
    have hne2 : (f r).addr ≠ (f q).addr := by rw [ha, ha2]; exact Ne.symm hne
    refine ⟨fun e => ?_, fun e => ?_⟩
    · refine h.st.apart hm hm2 hne2 (x := s.W) (.inr (.inr (.inr (.inl (by rw [he]))))) (.inr (.inr (.inr (.inl (by rw [he2]; exact e)))))
    · refine h.st.apart hm hm2 hne2 (x := s.M) (.inr (.inr (.inr (.inr (by rw [he]))))) (.inr (.inr (.inr (.inr (by rw [he2]; exact e)))))

def sF (eid E : Nat) (eby by_ : ByteArray) (r : Rec) : WrS := if r.addr = eby then oldS r.s eid else if r.addr = by_ ∧ by_.size ≠ 0 then newS r.s eid E else r.s

theorem Mod.fin {B : Nat} {w0 w w' : World} {I mE mW : Nat} {rv : Value} {G G2 : List Rec} {eid E : Nat} {eby by_ : ByteArray} {cr : Option Rec} (h : Mod B w0 I mE mW rv G eid E eby by_ G2 cr w) (hcl : Clean G) (hn : (G.map (·.addr)).Nodup) (hne : eby ≠ by_) (hlb : by_.size ≤ maxLen)
    (hA : Attr I mE mW E eid eby by_ (wl G) ((look eby G).map (·.s)) ((look by_ G).map (·.s)) w w') :
    ∃ (G3 : List Rec) (c3 : Option Rec) (WL' : List (ByteArray × Nat)), Fin w' I mE mW (G3 ++ c3.toList) WL' (cr.map (·.R)) ∧ w'.ownsRow 0 39 1 rv G3.length (G3.map fun r => ptr r.R) ∧ G3.length = G2.length ∧ c3.map (·.R) = cr.map (·.R) := by
  obtain ⟨hpo, hpn⟩ := h.pre hne
  obtain ⟨f, hG, hf⟩ := h.f
  have nn : ∀ {x : Nat} {cs : Array Value} {t : TypeId}, w.heap[x]? = some (.cells cs t (0, 0)) → t ≠ 44 ∧ t ≠ 57 → w'.heap[x]? = w.heap[x]? := fun hx ht =>
    hA.fr.block _ (Array.getElem?_eq_some_iff.1 hx).1 (attr_not h.st.map h.ent (fun s hs => (hpo s hs).1) (fun s hs => (hpn s hs).1) hx ht)
  have hrec : ∀ {R : Nat} {addr : ByteArray} {wp : Option Nat} {kv pv : Value} {d : Nat → Int} {g : Bool} {L : List (Nat × Nat)}, RecAt w R addr wp kv pv d g → KeyRow w kv L → PtrRow w pv L → RecAt w' R addr wp kv pv d g ∧ KeyRow w' kv L ∧ PtrRow w' pv L := by
    intro R addr wp kv pv d g L h1 h2 h3
    refine ⟨h1.same ?_, owns_same h2 (fun b hb => ?_), owns_same h3 (fun b hb => ?_)⟩
    · obtain ⟨cs, hc, _⟩ := h1; exact nn hc (by decide)
    · obtain ⟨cs, hc⟩ := owns_type h2 hb; exact nn hc (by decide)
    · obtain ⟨cs, hc⟩ := owns_type h3 hb; exact nn hc (by decide)
  obtain ⟨hcount, hget⟩ := old_count (eid := eid) (eby := eby) hn hcl
  have hmem : ∀ r ∈ G, f r ∈ G2 := fun r hr => by rw [hG]; exact List.mem_map.2 ⟨r, hr, rfl⟩
  -- the writers
  have hwr : ∀ r ∈ G, WrOk w' (sF eid E eby by_ r) := by
    intro r hr
    have hw := (h.st.all _ (hmem r hr)).wr
    rw [(hf r hr).2.2.2.1] at hw
    unfold sF
    by_cases e : r.addr = eby
    · rw [if_pos e]
      exact hA.wr r.s (by rw [look_self hn hr e]; rfl)
    rw [if_neg e]
    by_cases e2 : r.addr = by_ ∧ by_.size ≠ 0
    · rw [if_pos e2]
      exact (hA.had e2.2 r.s (by rw [look_self hn hr e2.1]; rfl)).2
    · rw [if_neg e2]
      have hno : ∀ x, (x = r.s.W ∨ x = r.s.M) → ¬ attrFr ((look eby G).map (·.s)) ((look by_ G).map (·.s)) by_ mW E x := by
        intro x hx
        have hbx : (f r).blk x := by
          rw [Rec.blk, (hf r hr).2.2.2.1]
          rcases hx with hx | hx
          · exact .inr (.inr (.inr (.inl hx)))
          · exact .inr (.inr (.inr (.inr hx)))
        have hoth : ∀ a s, (look a G).map (·.s) = some s → r.addr ≠ a → ¬ (x = s.W ∨ x = s.M) := by
          intro a s hs hra hxs
          cases hl : look a G with
          | none => rw [hl] at hs; cases hs
          | some q =>
            rw [hl] at hs
            simp only [Option.map_some, Option.some.injEq] at hs
            obtain ⟨hq, hqa⟩ := look_some hl
            refine h.st.apart (hmem r hr) (hmem q hq) (by rw [(hf r hr).1, (hf q hq).1, hqa]; exact hra) hbx ?_
            rw [Rec.blk, (hf q hq).2.2.2.1, hs]
            rcases hxs with hxs | hxs
            · exact .inr (.inr (.inr (.inl hxs)))
            · exact .inr (.inr (.inr (.inr hxs)))
        rintro ((e' | ⟨s, hs, e'⟩) | e' | ⟨hb, s, hs, e'⟩)
        · exact h.st.notW (hmem r hr) (e' ▸ hbx)
        · exact hoth _ s hs e e'
        · obtain ⟨cs, hc, _⟩ := h.ent
          rw [e'] at hbx
          exact (h.st.all _ (hmem r hr)).nblk hc (by decide) hbx
        · exact hoth _ s hs (fun e3 => e2 ⟨e3, hb⟩) e'
      exact hw.same (hA.fr.block _ hw.1.lt (hno _ (.inl rfl))) (hA.fr.block _ (by have := MapG.lt hw.2; exact this) (hno _ (.inr rfl)))
  have hLs : ∀ r ∈ G, mL eid E eby by_ r = (sF eid E eby by_ r).L ∧ mD eid eby by_ r = (sF eid E eby by_ r).d ∧ (sF eid E eby by_ r).W = r.s.W := by
    intro r hr
    obtain ⟨c1, c2, c3, c4⟩ := hcl r hr
    unfold mL mD sF
    rw [if_neg hne, if_neg hne]
    by_cases e : r.addr = eby
    · simp [e, oldS, c3, c2]
    · by_cases e2 : r.addr = by_ ∧ by_.size ≠ 0
      · rw [if_neg e, if_neg e, if_neg e, if_pos e2, if_pos e2, if_pos e2]; simp [newS, c3, c2]
      · rw [if_neg e, if_neg e, if_neg e, if_neg e2, if_neg e2, if_neg e2]; exact ⟨c3, c2, rfl⟩
  have hG3ok : ∀ r ∈ G, RecOk w' { f r with s := sF eid E eby by_ r } := by
    intro r hr
    obtain ⟨k1, k2, k3⟩ := hrec (h.st.all _ (hmem r hr)).rc (h.st.all _ (hmem r hr)).ks (h.st.all _ (hmem r hr)).ps
    exact ⟨k1, k2, k3, hwr r hr⟩
  have hgone : ∀ r ∈ G, (f r).gone = decide (r.addr = eby ∧ delL eid r.L = []) := fun r hr => by rw [(hf r hr).2.2.2.2.2.2]; simp [mG, hne]
  have hrow : w'.ownsRow 0 39 1 rv (G.map fun r => { f r with s := sF eid E eby by_ r }).length ((G.map fun r => { f r with s := sF eid E eby by_ r }).map fun r => ptr r.R) := by
    have h1 := owns_same h.st.row (w' := w') (fun b hb => by obtain ⟨cs, hc⟩ := owns_type h.st.row hb; exact nn hc (by decide))
    rw [hG] at h1
    simpa [List.map_map, Function.comp_def] using h1
  have hme : MapI w' mE [] := MapG.same h.st.me (hA.fr.block _ (MapG.lt h.st.me) (by
    obtain ⟨ow, ho, hoW, hoE⟩ := h.st.own
    have hoth : ∀ a s, (look a G).map (·.s) = some s → ¬ (mE = s.W ∨ mE = s.M) := by
      intro a s hs hxs
      cases hl : look a G with
      | none => rw [hl] at hs; cases hs
      | some q =>
        rw [hl] at hs
        simp only [Option.map_some, Option.some.injEq] at hs
        obtain ⟨hq, hqa⟩ := look_some hl
        have : (f q).blk mE := by
          rw [Rec.blk, (hf q hq).2.2.2.1, hs]
          rcases hxs with hxs | hxs
          · exact .inr (.inr (.inr (.inl hxs)))
          · exact .inr (.inr (.inr (.inr hxs)))
        have := ho _ (hmem q hq) _ this
        rw [hoE] at this; cases this
    rintro ((e' | ⟨s, hs, e'⟩) | e' | ⟨hb, s, hs, e'⟩)
    · exact h.st.mne e'
    · exact hoth _ s hs e'
    · obtain ⟨cs, hc, _⟩ := h.ent; exact cells_ne_map hc h.st.me e'.symm
    · exact hoth _ s hs e'))
  have hval : ∀ WL', (∀ r ∈ G, getL r.addr WL' = getL r.addr (oldWL ((look eby G).map (·.s)) eid eby (wl G))) → ∀ q ∈ (G.map fun r => { f r with s := sF eid E eby by_ r }), q.L = q.s.L ∧ q.dig = q.s.d ∧ q.addr.size ≤ maxLen ∧ getL q.addr WL' = (if q.gone then none else some q.s.W) ∧ (q.wp = some q.s.W ∨ cr.map (·.R) = some q.R) := by
    intro WL' hWL q hq
    obtain ⟨r, hr, rfl⟩ := List.mem_map.1 hq
    obtain ⟨f1, f2, f3, f4, f5, f6, f7⟩ := hf r hr
    obtain ⟨c1, c2, c3, c4⟩ := hcl r hr
    obtain ⟨l1, l2, l3⟩ := hLs r hr
    refine ⟨f5.trans l1, f6.trans l2, h.st.len (f r) (hmem r hr), ?_, .inl (by rw [l3]; exact f3.trans c4)⟩
    show getL (f r).addr WL' = (if (f r).gone then none else some (sF eid E eby by_ r).W)
    rw [f1, hWL r hr, hget r hr, hgone r hr, l3]
  have hcnt : ((G.map fun r => { f r with s := sF eid E eby by_ r }).filter (fun r => !r.gone)).length = (oldWL ((look eby G).map (·.s)) eid eby (wl G)).length := by
    rw [hcount, List.filter_map, List.length_map]
    congr 1
    apply List.filter_congr
    intro r hr
    show (!(f r).gone) = _
    rw [hgone r hr]
  cases hc : cr with
  | none =>
    have hmap : MapS w' mW (oldWL ((look eby G).map (·.s)) eid eby (wl G)) := by
      by_cases hb0 : by_.size = 0
      · exact hA.nob hb0
      · rcases h.no hc with e | e | e
        · exact absurd e hne
        · exact absurd e hb0
        · cases hl : look by_ G with
          | none => exact absurd hl e
          | some q => exact (hA.had hb0 q.s (by rw [hl]; rfl)).1
    refine ⟨_, none, _, ⟨hA.idx, hme, hmap, ?_, ?_, ?_⟩, hrow, by rw [hG]; simp, rfl⟩
    · intro q hq
      rw [Option.toList_none, List.append_nil] at hq
      obtain ⟨r, hr, rfl⟩ := List.mem_map.1 hq
      exact hG3ok r hr
    · intro q hq
      rw [Option.toList_none, List.append_nil] at hq
      have := hval _ (fun _ _ => rfl) q hq
      rw [hc] at this
      exact this
    · rw [Option.toList_none, List.append_nil, hcnt]
  | some c =>
    obtain ⟨hnew, hb0, _, hlk⟩ := h.new c hc
    obtain ⟨W', M', _, _, hmap, hWk⟩ := hA.fresh hb0 (by rw [hlk]; rfl)
    obtain ⟨k1, k2, k3⟩ := hrec hnew.rc hnew.ks hnew.ps
    have hnot : getL by_ (oldWL ((look eby G).map (·.s)) eid eby (wl G)) = none := by
      rw [oldWL_get _ eid (Ne.symm hne)]
      show getL by_ (G.map fun r => (r.addr, r.s.W)) = none
      rw [getL_look, hlk]; rfl
    have hput : putL by_ W' (oldWL ((look eby G).map (·.s)) eid eby (wl G)) = oldWL ((look eby G).map (·.s)) eid eby (wl G) ++ [(by_, W')] := putL_fresh ((getL_none_iff _ _).1 hnot)
    refine ⟨_, some { c with s := ⟨W', M', xorD (fun _ => 0) eid, [(eid, E)]⟩ }, _, ⟨hA.idx, hme, hmap, ?_, ?_, ?_⟩, hrow, by rw [hG]; simp, rfl⟩
    · intro q hq
      rcases List.mem_append.1 hq with hq | hq
      · obtain ⟨r, hr, rfl⟩ := List.mem_map.1 hq
        exact hG3ok r hr
      · simp only [Option.toList_some, List.mem_singleton] at hq
        subst hq
        exact ⟨k1, k2, k3, hWk⟩
    · intro q hq
      rcases List.mem_append.1 hq with hq | hq
      · have := hval (putL by_ W' (oldWL ((look eby G).map (·.s)) eid eby (wl G))) (fun r hr => getL_put_other (look_none hlk r hr) W' _) q hq
        rw [hc] at this
        exact this
      · simp only [Option.toList_some, List.mem_singleton] at hq
        subst hq
        refine ⟨hnew.L, hnew.dig, by show c.addr.size ≤ maxLen; rw [hnew.addr]; exact hlb, ?_, .inr rfl⟩
        show getL c.addr _ = (if c.gone then none else some W')
        rw [hnew.addr, hnew.gone, getL_put_same]; simp
    · rw [List.filter_append, List.length_append, hcnt, hput]
      simp [hnew.gone]

end Go.Proofs.Ybulkdiba
