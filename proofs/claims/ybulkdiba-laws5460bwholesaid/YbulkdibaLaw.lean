import Derived.Test.YbulkdibaTail
namespace Go.Proofs.Ybulkdiba
open Go.RowKit Go.Maps
set_option linter.unusedVariables false
attribute [local go_sem ↓] exec_load49 wp_load49 exec_load42 exec_load24 exec_build57 wp_build57 exec_neq49 wp_neq49 exec_neq42 wp_neq42 Go.wp_at_zero Go.wp_at_succ

set_option maxHeartbeats 20000000 in
set_option maxRecDepth 100000 in
theorem law_walk (wa : Option Addr) (n c : Nat) (eid : Nat) (eby by_ : ByteArray) (place : Bool) (w : World) (hn : n ≤ 9223372036854775807) (hwa : wa = none → n = 0) (hws : ∀ i, i < n → ∃ b o, wa = some ⟨b, o, none⟩ ∧ Seg w b (o + i * 22)) (he : eid < 256) (hle : eby.size ≤ maxLen) (hlb : by_.size ≤ maxLen) :
    Calls Yba.prog 3 #[.slice wa n c, .int .u8 eid, .string eby, .string by_, .bool place] w fun e w' => e = .returned (.bool true) ∧ Below w.heap.size w w' := by
  go_enter Yba.func3, Yba.ntmps3
  go_wp2_with fail
  go_loop [11, 36] (fun t i => ∃ k : Nat, ∃ z : Int, k ≤ n ∧ i = .int .i64 k ∧ t = .int .i64 z) (fun _ i => n - (intOf i).toNat)
  case atStart => exact ⟨0, 0, Nat.zero_le _, rfl, rfl⟩
  case round =>
    obtain ⟨k, z, hk, rfl, rfl⟩ := hrel
    by_cases hlt : k < n
    · obtain ⟨b, o, rfl, addr, ia, il, ic, zs, dg, hs⟩ := hws k hlt
      have s1 := hs.i
      clear hs hws
      go_wp2
      go_round
      case rel => exact ⟨k + 1, _, by omega, by go_num, rfl⟩
      case measure => simp [intOf]; omega
    · have hkn : k = n := by omega
      subst hkn
      clear hlt hk
      have hmm := @run_makeMap Yba.prog
      by_cases hbig : 4096 < k
      · go_wp2_with fail
        go_ret
        exact ⟨rfl, Below.refl _ _⟩
      by_cases hz : 65536 < z
      · go_wp2_with fail
        go_ret
        exact ⟨rfl, Below.refl _ _⟩
      go_upto_region 10 with fail
      generalize hA : ((w.alloc (Obj.map #[] 0)).alloc (Obj.map #[] 0)).alloc (Obj.cells #[Value.map (some w.heap.size), Value.pointer none, Value.pointer none, Value.pointer none, Value.nilIface, Value.int IntKind.i64 0, Value.pointer none, Value.pointer none, Value.pointer none, Value.nilIface, Value.int IntKind.i64 0, Value.pointer none, Value.pointer none, Value.pointer none, Value.nilIface, Value.int IntKind.i64 0, Value.map (some (w.heap.size + 1))] 37) = wA
      obtain ⟨hSt, hB⟩ := St.init hA
      clear hA
      obtain ⟨B, I, mE, mW, hB1, hI1, hE1, hW1⟩ : ∃ B I mE mW, w.heap.size = B ∧ w.heap.size + 1 + 1 = I ∧ w.heap.size = mE ∧ w.heap.size + 1 = mW := ⟨_, _, _, _, rfl, rfl, rfl, rfl⟩
      have hSt2 : St B wA I mE mW (.slice none 0 0) [] [] := by rw [← hB1, ← hI1, ← hE1, ← hW1]; exact hSt
      have hB2 : Below B w wA := by rw [← hB1]; exact hB
      rw [hI1, hW1]
      clear hSt hB hI1 hW1 hE1 hmm
      go_wp2_with fail
      go_loopw [14, 61] (fun v i wr => ∃ j : Nat, ∃ G : List Rec, ∃ rv : Value, j ≤ k ∧ i = .int .i64 j ∧ v = rv ∧ St B wr I mE mW rv G (wl G) ∧ Clean G ∧ G.length ≤ j ∧ Below B w wr) (fun _ i _ => k - (intOf i).toNat)
      case atStart => exact ⟨0, [], _, Nat.zero_le _, rfl, rfl, hSt2, (fun r hr => by cases hr), Nat.le_refl _, hB2⟩
      case round =>
        obtain ⟨j, G, rv, hj, rfl, rfl, hSt, hcl, hG, hB⟩ := hrel
        clear hSt2 hB2
        by_cases hlt : j < k
        · obtain ⟨b, o, rfl, addr, ia, il, ic, zs, dg, hs0⟩ := hws j hlt
          have hs := hs0.below (by rw [hB1]; exact hB)
          have c0 := hs.a
          have c1 := hs.i
          go_wp2_with fail
          refine (find_any u14 (fl G) addr wr hSt.finds (by simp [fl]; omega)).mono ?_
          rintro e wf ⟨rfl, rfl⟩
          rw [show getL addr (fl G) = (look addr G).map (·.R) from getL_look addr _ G]
          cases hlk : look addr G with
          | some r =>
            simp only [Option.map_some, ptrO, ptr]
            go_wp2_with fail
            go_roundw
            case rel => exact ⟨j + 1, G, _, by omega, by go_num, rfl, hSt, hcl, by omega, hB⟩
            case measure => simp [intOf]; omega
          | none =>
            simp only [Option.map_none, ptrO]
            have hmm := @run_makeMap Yba.prog
            have hsM := hs0.below (w' := wf.alloc (.map #[] 0)) (by rw [hB1]; exact hB.alloc hSt.size _)
            obtain ⟨o1, o2⟩ := rd_of (f := fun i => Value.int .u8 (dg i)) hsM.d
            go_upto_region 16 with fail
            generalize hA : (wf.alloc (Obj.map #[] 0)).alloc (Obj.cells #[Value.map (some wf.heap.size), Value.int IntKind.u8 (dg 0), Value.int IntKind.u8 (dg 1), Value.int IntKind.u8 (dg 2), Value.int IntKind.u8 (dg 3), Value.int IntKind.u8 (dg 4), Value.int IntKind.u8 (dg 5), Value.int IntKind.u8 (dg 6), Value.int IntKind.u8 (dg 7), Value.int IntKind.u8 (dg 8), Value.int IntKind.u8 (dg 9), Value.int IntKind.u8 (dg 10), Value.int IntKind.u8 (dg 11), Value.int IntKind.u8 (dg 12), Value.int IntKind.u8 (dg 13), Value.int IntKind.u8 (dg 14), Value.int IntKind.u8 (dg 15), Value.int IntKind.u8 (dg 16), Value.int IntKind.u8 (dg 17), Value.int IntKind.u8 (dg 18), Value.int IntKind.u8 (dg 19)] 44) = wB
            obtain ⟨hWB, hMB, hfB, hzB⟩ := made_writerD hA
            have hB2 : Below B w wB := hB.trans (hfB.below hSt.size (fun _ h => h.elim))
            have hsB := hs0.below (by rw [hB1]; exact hB2)
            clear hA o1 o2 hmm c0 c1 hsM hs
            obtain ⟨o1, o2⟩ := rd_of (w := wB.drew) (f := fun i => Value.int .u8 (dg i)) hsB.d
            have c0 := hsB.a
            go_region
            go_upto_region 17 with fail
            generalize hA2 : wB.alloc (Obj.cells #[Value.string addr, Value.pointer (some ⟨wf.heap.size + 1, 0, none⟩), Value.slice none 0 0, Value.slice none 0 0, Value.int IntKind.u8 (dg 0), Value.int IntKind.u8 (dg 1), Value.int IntKind.u8 (dg 2), Value.int IntKind.u8 (dg 3), Value.int IntKind.u8 (dg 4), Value.int IntKind.u8 (dg 5), Value.int IntKind.u8 (dg 6), Value.int IntKind.u8 (dg 7), Value.int IntKind.u8 (dg 8), Value.int IntKind.u8 (dg 9), Value.int IntKind.u8 (dg 10), Value.int IntKind.u8 (dg 11), Value.int IntKind.u8 (dg 12), Value.int IntKind.u8 (dg 13), Value.int IntKind.u8 (dg 14), Value.int IntKind.u8 (dg 15), Value.int IntKind.u8 (dg 16), Value.int IntKind.u8 (dg 17), Value.int IntKind.u8 (dg 18), Value.int IntKind.u8 (dg 19), Value.bool false] 47) = wC
            obtain ⟨hRC, hkC, hpC, hfC⟩ := made_rec hA2
            rw [hzB] at hRC
            clear hA2 o1 o2 c0
            obtain ⟨N, hN⟩ : ∃ N, wf.heap.size = N := ⟨_, rfl⟩
            have hfBC : Fr (fun _ => False) wf wC := hfB.trans hfC
            have hWC := hWB.same (hfC.block _ hWB.lt (fun h => h))
            have hMC : MapI wC _ _ := MapG.same hMB (hfC.block _ (MapG.lt hMB) (fun h => h))
            rw [hN] at hWC hMC hRC ⊢
            have hr0 : RecOk wC.drew ⟨addr, N + 2, some (N + 1), .slice none 0 0, .slice none 0 0, dg, false, [], ⟨N + 1, N, dg, []⟩⟩ := ⟨hRC, hkC, hpC, hWC, hMC⟩
            have hbC : Below N wf wC.drew := by
              have := hfBC.drew.below (Nat.le_refl _) (fun _ h => h.elim)
              rw [hN] at this; exact this
            have hBN : B ≤ N := by rw [← hN]; exact hSt.size
            clear hRC hkC hpC hfC hWC hMC hfBC hWB hMB hfB hzB hB2 hsB
            have hsC := hs0.below (w' := wC.drew) (by rw [hB1]; exact hB.trans (hbC.mono hBN))
            have c1 := hsC.i
            generalize wC.drew = wD at *
            go_wp2_with fail
            go_loopw [99] (fun i wr => ∃ q : Nat, ∃ r : Rec, q ≤ il ∧ i = .int .i64 q ∧ (r.addr = addr ∧ r.R = N + 2 ∧ r.s.W = N + 1 ∧ r.s.M = N ∧ r.gone = false ∧ r.dig = r.s.d ∧ r.L = r.s.L ∧ r.wp = some (N + 1)) ∧ RecOk wr r ∧ (∀ x, r.blk x → N ≤ x) ∧ Below N wf wr) (fun i _ => il - (intOf i).toNat)
            case atStart =>
              refine ⟨0, _, Nat.zero_le _, rfl, ⟨rfl, rfl, rfl, rfl, rfl, rfl, rfl, rfl⟩, hr0, ?_, hbC⟩
              intro x hx
              rcases hx with h | h | h | h | h
              · rw [h]; simp
              · cases h
              · cases h
              · rw [h]; simp
              · rw [h]; simp
            case round =>
              obtain ⟨q, r, hq, rfl, hr, hrk, hrb, hbr⟩ := hrel
              clear hbC hr0 c1 hsC
              have hbB : Below B w wr := hB.trans (hbr.mono hBN)
              have hsr := hs0.below (by rw [hB1]; exact hbB)
              have hile := hsr.ile
              by_cases hqlt : q < il
              · obtain ⟨gb, go, rfl, cz⟩ := hsr.z q hqlt
                have hzl := hsr.zl q
                have c0 := hsr.a
                go_upto_region 20 with fail
                go_cut [20] from 103 to 111 (fun p wx => ∃ E, p = .pointer (some ⟨E, 0, none⟩) ∧ EntAt wx E (zs q) addr ∧ Below wr.heap.size wr wx ∧ wr.heap.size ≤ E)
                case first =>
                  have e1 := isId_id (zs q)
                  have e2 := isStr_str addr
                  have e3 := entOf_id (zs q) addr
                  go_region_with (go_at_call 5; refine (id_any (zs q) _ hzl).mono ?_; rintro e w1 ⟨rfl, hb1⟩; have c01 : w1.cell? ⟨b, o + j * 22, none⟩ = some (.string addr) := (hb1.cell (World.block_lt_of_cell? _ _ c0)).trans c0)
                  all_goals
                    go_wp2_with fail
                    go_meet
                  all_goals exact ⟨_, rfl, (made_ent rfl).1, (below_undrew hb1).alloc hb1.size _, hb1.size⟩
                case rest =>
                  obtain ⟨E, rfl, hE, hbE, hEge⟩ := hcut
                  obtain ⟨ra, rR, rW, rM, rg, rd, rL, rwp⟩ := hr
                  have hrc := hrk.below hbE (Nat.le_refl _)
                  have hw0 := hrc.wr.1.cell
                  rw [rW, rM] at hw0
                  obtain ⟨o1, o2⟩ : okV wc.drew (.pointer (some ⟨E, 0, none⟩)) 20 = true ∧ rdV wc.drew (.pointer (some ⟨E, 0, none⟩)) 20 = idArr (zs q) := hE.rd
                  have hfew := MapI.few hrc.wr.2
                  obtain ⟨w2, hupd, hM2, hg2, hz2⟩ := MapG.store (w := wc.drew) idSet (MapG.same hrc.wr.2 rfl) Yba.underlying28 (by unfold maxLen; omega) hzl E
                  rw [rM] at hupd
                  simp only [ptr] at hupd
                  go_upto_region 21 with fail
                  go_region
                  have hf2 : Fr (fun x => x = r.s.M) wc w2 := Fr.undrew ((Fr.of_grown hg2).mono (fun i _ hi => by simpa using hi.symm))
                  clear hupd o1 o2 hw0 hg2 c0 cz
                  have hR2 : RecAt w2 r.R r.addr r.wp r.kv r.pv r.dig r.gone := hrc.rc.same (hf2.block _ hrc.rc.lt (by obtain ⟨ds, hd, _⟩ := hrc.rc; exact cells_ne_map hd hrc.wr.2))
                  have hk2 : KeyRow w2 r.kv r.L := owns_same hrc.ks (fun b hb => hf2.block _ (owns_lt hrc.ks hb) (by obtain ⟨ds, hd⟩ := owns_type hrc.ks hb; exact cells_ne_map hd hrc.wr.2))
                  have hp2 : PtrRow w2 r.pv r.L := owns_same hrc.ps (fun b hb => hf2.block _ (owns_lt hrc.ps hb) (by obtain ⟨ds, hd⟩ := owns_type hrc.ps hb; exact cells_ne_map hd hrc.wr.2))
                  go_wp2_with fail
                  have hput := put_any r.R (zs q) E r.addr r.wp r.kv r.pv r.dig r.gone r.L w2 hR2 hk2 hp2 (by rw [rL]; omega)
                  rw [rR] at hput
                  simp only [ptr] at hput
                  refine hput.mono ?_
                  rintro e w3 ⟨rfl, hnew⟩
                  rw [← rR] at hnew
                  obtain ⟨r', ⟨q1, q2, q3, q4, q5, q6, q7, q8, q9, q10⟩, hok', hlow', _, hfr'⟩ := hrk.put hbE hM2 hf2 hnew (by have := hbr.size; omega) hrb
                  have hb3 : Below N wf w3 := hbr.trans (hfr'.below (by have := hbr.size; omega) hrb)
                  go_wp2_with fail
                  go_roundw
                  case rel => exact ⟨q + 1, r', by omega, by go_num, ⟨q1.trans ra, q2.trans rR, q3.trans rW, q4.trans rM, q5.trans rg, by rw [q6, q7, rd], by rw [q8, q9, rL], q10.trans rwp⟩, hok', hlow', hb3⟩
                  case measure => simp [intOf]; omega
              · have hbf : Below wf.heap.size wf wr := by rw [hN]; exact hbr
                have hStr := hSt.keep (Fr.of_below hbf _)
                obtain ⟨ra, rR, rW, rM, rg, rd, rL, rwp⟩ := hr
                obtain ⟨i0, i16⟩ := hStr.idx.cells
                have c0 := hsr.a
                have hlen : (wl G).length < maxLen := by simp [wl, maxLen]; omega
                obtain ⟨w2, hupd, hS2, hg2, hz2⟩ := MapG.store (w := wr.drew) strSet (MapG.same hStr.map rfl) Yba.underlying29 hlen hsr.al (N + 1)
                simp only [ptr] at hupd
                have hqil : q = il := by omega
                subst hqil
                clear hqlt hq
                go_upto_region 24 with fail
                go_region
                have hf2 : Fr (fun x => x = mW) wr w2 := Fr.undrew ((Fr.of_grown hg2).mono (fun i _ hi => by simpa using hi.symm))
                have hmWlt : mW < N := by rw [← hN]; exact MapG.lt hSt.map
                have hmElt : mE < N := by rw [← hN]; exact MapG.lt hSt.me
                have hlook := look_none hlk
                have hfresh : addr ∉ G.map (·.addr) := fun hm => by obtain ⟨x, hx, e⟩ := List.mem_map.1 hm; exact hlook x hx e
                rw [putL_fresh (by simpa [wl] using hfresh)] at hS2
                have hSt2 := hStr.remap hf2 hS2
                have hrk2 : RecOk w2 r := hrk.same fun x hx => hf2.block x (hrk.lt hx) (by have := hrb x hx; omega)
                clear hupd hg2 i0 i16 c0 hz2
                obtain ⟨i39, hi39, z39, s39, b39⟩ := info_parts Yba.info39
                go_wp2_with (at_builtin; go_loud (refine wpList_append_own_at _ rfl (.tmp 136) (.tmp 138) 38 rfl 0 39 i39 (.pointer none) 1 8 Yba.underlying38 hi39 z39 s39 b39 rfl (by decide) _ _ _ rfl (World.ownsRow.alloc hSt2.row _) ⟨w2.heap.size, 0, none⟩ 1 1 [.pointer (some ⟨N + 2, 0, none⟩)] rfl rfl (cell_one_new _ _ _) ?c2 (by unfold maxLen; omega) (by omega) (by simp) ?_))
                case c2 => intro u hu; simp at hu; subst hu; rfl
                intro v3 w3 hrow3 hg3 _ hl3
                have hf3 : Fr (fun x => u14.ownBlock = some x) w2 w3 := ((Fr.refl _ w2).alloc _).trans (Fr.of_grown hg3)
                have hNw2 : N ≤ w2.heap.size := by have := hf2.size; have := hbr.size; omega
                have hSt3 : St B w3 I mE mW v3 (G ++ [r]) (wl G ++ [(addr, N + 1)]) := by
                  refine hSt2.push (N := N) ?_ hmWlt hmElt hBN hrk2 hrb (by rw [ra]; exact hfresh) (by rw [ra]; exact hsr.al) (by rw [rR]; exact hrow3) hf3 ?_
                  · intro p hp x hx
                    rw [← hN]; exact (hSt.all p hp).lt hx
                  · intro b hb
                    rcases hl3 with e | e
                    · exact .inl (e ▸ hb)
                    · rw [e] at hb; simp at hb; exact .inr (by omega)
                have hwl : wl G ++ [(addr, N + 1)] = wl (G ++ [r]) := by simp [wl, ra, rW]
                rw [hwl] at hSt3
                have hcl3 : Clean (G ++ [r]) := by
                  intro p hp
                  rcases List.mem_append.1 hp with hp | hp
                  · exact hcl p hp
                  · obtain rfl := List.mem_singleton.1 hp; exact ⟨rg, rd, rL, by rw [rwp, rW]⟩
                have hb3 : Below B w w3 := hbB.trans ((hf2.below (by have := hbB.size; omega) (fun i hi => by rw [hi]; exact hSt.low.2.2.1)).trans (hf3.below (by omega) (fun i hi => hSt.low.2.2.2.1 i hi)))
                clear hrow3 hg3 hl3 hf3 hSt2 hS2 hStr hf2 hrk2 hrk hSt
                go_wp2_with fail
                go_roundw
                case rel => exact ⟨j + 1, G ++ [r], _, by omega, by go_num, rfl, hSt3, hcl3, by simp; omega, hb3⟩
                case measure => simp [intOf]; omega
        · have hjk : j = k := by omega
          subst hjk
          have hGl : G.length ≤ 4096 := by omega
          clear hlt hj hG hws hwa
          go_wp2_with fail
          refine (id_any eid wr he).mono ?_
          rintro e w1 ⟨rfl, hb1⟩
          have e1 := isId_id eid
          have e2 := isStr_str eby
          have e3 := entOf_id eid eby
          go_upto_region 28 with fail
          generalize hA : w1.alloc (Obj.cells (entArr eid eby) 57) = wE
          obtain ⟨hE, hfE⟩ := made_ent hA
          have hfw : Fr (fun _ => False) wr wE := (Fr.of_below hb1 _).trans hfE
          have hSt1 := hSt.keep hfw
          have hBE : B ≤ w1.heap.size := by have := hb1.size; have := hSt.size; omega
          have hB3 : Below B w wE := hB.trans (hfw.below hSt.size (fun _ h => h.elim))
          generalize w1.heap.size = E at hE hBE ⊢
          clear hA hfE hfw hSt hB hb1 e1 e2 e3
          go_upto_if 146 with fail
          go_cut [22] from 147 to 167 (fun _ wx => ∃ G1, St B wx I mE mW u14 G1 (wl G1) ∧ Clean G1 ∧ G1.length ≤ 4096 ∧ EntAt wx E eid eby ∧ Below B w wx)
          case first =>
            cases place with
            | false =>
              go_wp2_with fail
              go_meet
              exact ⟨G, hSt1, hcl, hGl, hE, hB3⟩
            | true =>
              go_wp2_with fail
              refine (find_any u14 (fl G) eby wE hSt1.finds (by simp [fl]; omega)).mono ?_
              rintro e wf ⟨rfl, rfl⟩
              rw [getR G eby]
              cases hlk : look eby G with
              | none =>
                simp only [Option.map_none, ptrO]
                go_wp2_with fail
                go_meet
                exact ⟨G, hSt1, hcl, hGl, hE, hB3⟩
              | some r =>
                simp only [Option.map_some, ptrO, ptr]
                obtain ⟨hrG, hra⟩ := look_some hlk
                have hrk := hSt1.all r hrG
                obtain ⟨cg, cd, cL, cwp⟩ := hcl r hrG
                obtain ⟨r0, r1, r2, r3, r24, rf⟩ := hrk.rc.cells
                rw [cwp] at r1
                simp only [ptrO, ptr] at r1
                have hw0 := hrk.wr.1.cell
                obtain ⟨o1, o2⟩ : okV wf.drew (.pointer (some ⟨E, 0, none⟩)) 20 = true ∧ rdV wf.drew (.pointer (some ⟨E, 0, none⟩)) 20 = idArr eid := hE.rd
                have hfew := MapI.few hrk.wr.2
                obtain ⟨w2, hupd, hM2, hg2, hz2⟩ := MapG.store (w := wf.drew) idSet (MapG.same hrk.wr.2 rfl) Yba.underlying28 (by unfold maxLen; omega) he E
                simp only [ptr] at hupd
                go_upto_region 31 with fail
                go_region
                have hf2 : Fr (fun x => x = r.s.M) wf w2 := Fr.undrew ((Fr.of_grown hg2).mono (fun i _ hi => by simpa using hi.symm))
                clear hupd o1 o2 hw0 hg2 r0 r1 r2 r3 r24 rf
                have hR2 : RecAt w2 r.R r.addr r.wp r.kv r.pv r.dig r.gone := hrk.rc.same (hf2.block _ hrk.rc.lt (by obtain ⟨ds, hd, _⟩ := hrk.rc; exact cells_ne_map hd hrk.wr.2))
                have hk2 : KeyRow w2 r.kv r.L := owns_same hrk.ks (fun b hb => hf2.block _ (owns_lt hrk.ks hb) (by obtain ⟨ds, hd⟩ := owns_type hrk.ks hb; exact cells_ne_map hd hrk.wr.2))
                have hp2 : PtrRow w2 r.pv r.L := owns_same hrk.ps (fun b hb => hf2.block _ (owns_lt hrk.ps hb) (by obtain ⟨ds, hd⟩ := owns_type hrk.ps hb; exact cells_ne_map hd hrk.wr.2))
                go_wp2_with fail
                have hput := put_any r.R eid E r.addr r.wp r.kv r.pv r.dig r.gone r.L w2 hR2 hk2 hp2 (by rw [cL]; omega)
                simp only [ptr] at hput
                refine hput.mono ?_
                rintro e w3 ⟨rfl, hnew⟩
                obtain ⟨r', ⟨q1, q2, q3, q4, q5, q6, q7, q8, q9, q10⟩, hok', hlow', hloc', hfr'⟩ := hrk.put (Below.refl _ _) hM2 hf2 hnew hSt1.size (hSt1.low.2.2.2.2 r hrG)
                obtain ⟨G1, hStG1, hclG1, hlG1⟩ := hSt1.placed hcl hrG hfr' q1 q2 q3 hloc' hok' ⟨by rw [q5, cg], by rw [q6, q7, cd], by rw [q8, q9, cL], by rw [q10, q3, cwp]⟩
                have hE3 : EntAt w3 E eid eby := hE.same (hfr'.block _ hE.lt (by obtain ⟨cs, hc, _⟩ := hE; exact hrk.nblk hc (by decide)))
                have hB4 : Below B w w3 := hB3.trans (hfr'.below hSt1.size (hSt1.low.2.2.2.2 r hrG))
                go_wp2_with fail
                go_meet
                exact ⟨G1, hStG1, hclG1, by omega, hE3, hB4⟩
          case rest =>
            obtain ⟨G1, hSt2, hcl2, hGl2, hE2, hB4⟩ := hcut
            clear hSt1 hcl hGl hE hB3
            go_upto_if 170 with fail
            generalize hbb : (!(eby.toList == by_.toList)) = bb
            go_cut [23, 24, 25] from 171 to 212 (fun p _ _ wx => ∃ G2 cr, p = ptrO (cr.map (·.R)) ∧ Mod B w I mE mW u14 G1 eid E eby by_ G2 cr wx)
            case first =>
              cases bb
              · have heq : eby = by_ := Decidable.byContradiction fun h => by rw [str_ne h] at hbb; cases hbb
                go_wp2_with fail
                go_meet
                exact ⟨G1, none, rfl, Mod.same hSt2 hcl2 hE2 hB4 heq⟩
              · have heq : eby ≠ by_ := fun h => by rw [h] at hbb; simp at hbb
                clear hbb
                go_wp2_with fail
                refine (find_any u14 (fl G1) eby _ hSt2.finds (by simp [fl]; omega)).mono ?_
                rintro e wf ⟨rfl, rfl⟩
                rw [getR G1 eby]
                rcases hlk : look eby G1 with _ | r
                case' none =>
                  obtain ⟨G2, hM1⟩ : ∃ G2, Mod1 B w I mE mW u14 G1 eid E eby G2 wf := ⟨G1, Mod1.lack hSt2 hcl2 hE2 hB4 hlk⟩
                  simp only [Option.map_none, ptrO]
                  go_upto_region 41 with fail
                  generalize wf = wx at hM1 ⊢
                case' some =>
                  simp only [Option.map_some, ptrO, ptr]
                  obtain ⟨hrG, hra⟩ := look_some hlk
                  have hrk := hSt2.all r hrG
                  obtain ⟨cg, cd, cL, cwp⟩ := hcl2 r hrG
                  have hfew := MapI.few hrk.wr.2
                  have hdel := del_any r.R eid r.addr r.wp r.kv r.pv r.dig r.gone r.L wf hrk.rc hrk.ks hrk.ps (by rw [cL]; omega)
                  simp only [ptr] at hdel
                  have Hcg : Hid (r.gone = false) := cg
                  clear cg cd cL cwp
                  go_wp2_with fail
                  refine hdel.mono ?_
                  rintro e w1 ⟨rfl, hnew⟩
                  obtain ⟨kv1, pv1, hT1⟩ := Turn.ofNew hnew
                  obtain ⟨cs1, k0, k1, k2, k3, k4, k5, k6, k7⟩ := hT1.rc
                  have hxor := xor_any r.R 47 4 eid cs1 r.dig w1 he k0 (by omega) k6
                  clear hdel hnew
                  go_wp2_with fail
                  refine hxor.mono ?_
                  rintro e w2 ⟨rfl, htg⟩
                  have hT2 := hT1.step ((Fr.of_grown htg.2).mono (fun i _ hi => by simpa using hi.symm)) (RecAt.toggled ⟨k1, k2, k3, k4, k5, k7⟩ htg)
                  clear hxor htg k0 k1 k2 k3 k4 k5 k6 k7 hT1
                  obtain ⟨ka, kc, rfl, _, _, _, _⟩ := owns_parts hT2.ks
                  obtain ⟨_, _, r2, _, r24, rf⟩ := hT2.rc.cells
                  have rf24 := rf 24
                  clear rf
                  by_cases hemp : delL eid r.L = []
                  case' pos =>
                    have hzl : (((delL eid r.L).length : Int) == 0) = true := by rw [hemp]; rfl
                    have hT3 := hT2.step (Fr.set (o := 24) (Value.bool true)) (hT2.rc.setGone true)
                    have hdc : decide (delL eid r.L = []) = true := by simp [hemp]
                    rw [← hdc] at hT3
                    obtain ⟨G2, hM1⟩ := Mod1.lost hSt2 hcl2 hE2 hB4 hrG hra hT3
                    rw [hdc] at hM1
                    clear hT3 hdc
                    go_upto_region 41 with fail
                    generalize (w2.setCell ⟨r.R, 24, none⟩ (.bool true)) = wx at hM1 ⊢
                  case' neg =>
                    have hzl : (((delL eid r.L).length : Int) == 0) = false := by
                      rw [beq_eq_false_iff_ne]; intro e; exact hemp (List.eq_nil_of_length_eq_zero (by omega))
                    have hdc : decide (delL eid r.L = []) = r.gone := by rw [Hcg.out]; simp [hemp]
                    have hT3 := hT2
                    rw [← hdc] at hT3
                    obtain ⟨G2, hM1⟩ := Mod1.lost hSt2 hcl2 hE2 hB4 hrG hra hT3
                    clear hT3 hdc
                    go_upto_region 41 with fail
                    generalize w2 = wx at hM1 ⊢
                all_goals
                  clear hSt2 hE2 hB4
                  obtain ⟨hGl3, hLr, hlkn⟩ : G2.length ≤ 4096 ∧ (∀ r2, look by_ G2 = some r2 → r2.L.length ≤ 1000000 ∧ look by_ G1 ≠ none) ∧ (look by_ G2 = none → look by_ G1 = none) := by
                    obtain ⟨f, hGf, hff⟩ := hM1.f
                    have hlm : look by_ G2 = (look by_ G1).map f := by rw [hGf]; exact look_map f (fun r hr => (hff r hr).1)
                    refine ⟨by rw [hGf]; simpa using hGl2, fun r2 h2 => ?_, fun h2 => ?_⟩
                    · rw [hlm] at h2
                      cases hq : look by_ G1 with
                      | none => rw [hq] at h2; cases h2
                      | some q =>
                        rw [hq] at h2
                        simp only [Option.map_some, Option.some.injEq] at h2
                        obtain ⟨hqG, hqa⟩ := look_some hq
                        have hfew2 := MapI.few (hM1.st.all (f q) (by rw [hGf]; exact List.mem_map.2 ⟨q, hqG, rfl⟩)).wr.2
                        obtain ⟨_, _, _, f4, f5, _, _⟩ := hff q hqG
                        rw [f4, ← (hcl2 q hqG).2.2.1] at hfew2
                        rw [← h2, f5, if_neg (fun e => heq (e.symm.trans hqa))]
                        exact ⟨by omega, by simp⟩
                    · rw [hlm] at h2
                      cases hq : look by_ G1 with
                      | none => rfl
                      | some q => rw [hq] at h2; cases h2
                  clear hcl2
                  by_cases hb0 : by_.size = 0
                  · have hbe0 : by_.toList.isEmpty = true := by rw [isEmpty_str]; simpa using hb0
                    go_wp2_with fail
                    go_meet
                    exact ⟨G2, none, rfl, hM1.nob heq hb0⟩
                  · have hbe0 : by_.toList.isEmpty = false := by rw [isEmpty_str]; simpa using hb0
                    go_wp2_with fail
                    refine (find_any u14 (fl G2) by_ wx hM1.st.finds (by simp [fl]; omega)).mono ?_
                    rintro e wg ⟨rfl, rfl⟩
                    rw [getR G2 by_]
                    rcases hlb2 : look by_ G2 with _ | r2
                    · simp only [Option.map_none, ptrO]
                      have hnone := hlkn hlb2
                      clear hLr hlkn
                      go_upto_region 46 with fail
                      generalize hA : wg.alloc (Obj.cells #[Value.string by_, Value.pointer none, Value.slice none 0 0, Value.slice none 0 0, Value.int IntKind.u8 0, Value.int IntKind.u8 0, Value.int IntKind.u8 0, Value.int IntKind.u8 0, Value.int IntKind.u8 0, Value.int IntKind.u8 0, Value.int IntKind.u8 0, Value.int IntKind.u8 0, Value.int IntKind.u8 0, Value.int IntKind.u8 0, Value.int IntKind.u8 0, Value.int IntKind.u8 0, Value.int IntKind.u8 0, Value.int IntKind.u8 0, Value.int IntKind.u8 0, Value.int IntKind.u8 0, Value.int IntKind.u8 0, Value.int IntKind.u8 0, Value.int IntKind.u8 0, Value.int IntKind.u8 0, Value.bool false] 47) = wN
                      obtain ⟨hRN, hkN, hpN, hfN⟩ := made_rec0 hA
                      clear hA
                      have hRge : wg.heap.size ≤ wg.heap.size := Nat.le_refl _
                      generalize hRn : wg.heap.size = Rn at hRN ⊢
                      have hput := put_any Rn eid E by_ none (.slice none 0 0) (.slice none 0 0) (fun _ => 0) false [] wN hRN hkN hpN (by simp)
                      simp only [ptr] at hput
                      go_wp2_with fail
                      refine hput.mono ?_
                      rintro e w1 ⟨rfl, hnew⟩
                      obtain ⟨kvn, pvn, hTn⟩ := Turn.ofNew (r := ⟨by_, Rn, none, .slice none 0 0, .slice none 0 0, fun _ => 0, false, [], ⟨0, 0, fun _ => 0, []⟩⟩) hnew
                      obtain ⟨cs1, k0, k1, k2, k3, k4, k5, k6, k7⟩ := hTn.rc
                      have hxor := xor_any Rn 47 4 eid cs1 (fun _ => 0) w1 he k0 (by omega) k6
                      clear hput hnew
                      go_wp2_with fail
                      refine hxor.mono ?_
                      rintro e w2 ⟨rfl, htg⟩
                      have hT2 := hTn.step ((Fr.of_grown htg.2).mono (fun i _ hi => by simpa using hi.symm)) (RecAt.toggled ⟨k1, k2, k3, k4, k5, k7⟩ htg)
                      have hfin : Fr (fun _ => False) wg w2 := Fr.late hfN (hT2.fr.mono (T := fun i => i = Rn) (fun i _ hi => by
                        rcases hi with e | e | e
                        · exact e
                        · cases e
                        · cases e)) (by omega)
                      clear hxor htg k0 k1 k2 k3 k4 k5 k6 k7 hTn
                      go_wp2_with fail
                      go_meet
                      exact ⟨G2, some ⟨by_, Rn, none, kvn, pvn, xorD (fun _ => 0) eid, false, [(eid, E)], ⟨0, 0, fun _ => 0, []⟩⟩, rfl, hM1.fresh heq hb0 hnone ⟨rfl, rfl, rfl, rfl, rfl, hT2.rc, hT2.ks, hT2.ps⟩ hfin⟩
                    · simp only [Option.map_some, ptrO, ptr]
                      obtain ⟨hr2G, hr2a⟩ := look_some hlb2
                      obtain ⟨hL2, hn2⟩ := hLr r2 hlb2
                      clear hLr hlkn
                      have hrk2 := hM1.st.all r2 hr2G
                      have hput := put_any r2.R eid E r2.addr r2.wp r2.kv r2.pv r2.dig r2.gone r2.L wg hrk2.rc hrk2.ks hrk2.ps hL2
                      simp only [ptr] at hput
                      go_wp2_with fail
                      refine hput.mono ?_
                      rintro e w1 ⟨rfl, hnew⟩
                      obtain ⟨kvn, pvn, hTn⟩ := Turn.ofNew hnew
                      obtain ⟨cs1, k0, k1, k2, k3, k4, k5, k6, k7⟩ := hTn.rc
                      have hxor := xor_any r2.R 47 4 eid cs1 r2.dig w1 he k0 (by omega) k6
                      clear hput hnew
                      go_wp2_with fail
                      refine hxor.mono ?_
                      rintro e w2 ⟨rfl, htg⟩
                      have hT2 := hTn.step ((Fr.of_grown htg.2).mono (fun i _ hi => by simpa using hi.symm)) (RecAt.toggled ⟨k1, k2, k3, k4, k5, k7⟩ htg)
                      obtain ⟨G3, hM2⟩ := hM1.had heq hb0 hr2G hr2a hn2 hT2
                      clear hxor htg k0 k1 k2 k3 k4 k5 k6 k7 hTn hT2
                      go_wp2_with fail
                      go_meet
                      exact ⟨G3, none, rfl, hM2⟩
            case rest =>
              obtain ⟨G2, cr, rfl, hM⟩ := hcut
              have hcall : Calls Yba.prog 9 #[.pointer (some ⟨I, 0, none⟩), .pointer (some ⟨E, 0, none⟩), .string by_] wc _ := hM.call hcl2 hSt2.nod hGl2 he hle hlb hBE
              clear hM hSt2 hcl2 hE2 hB4 hbb
              go_wp2_with fail
              refine hcall.mono ?_
              rintro e wF ⟨rfl, G3, c3, WL, hF, hrow, hGl3, hcR, hEF, hBF, hrv⟩
              clear hcall
              obtain ⟨ec, e30, ef⟩ := hEF.cells
              clear ec ef
              obtain ⟨i0, i16⟩ := hF.idx.cells
              go_upto_region 49 with fail
              go_cut [239] from 217 to 238 (fun v wx => v = .bool false ∧ Below wF.heap.size wF wx)
              case first =>
                obtain ⟨o1, o2⟩ : okV wF.drew (.pointer (some ⟨E, 0, none⟩)) 20 = true ∧ rdV wF.drew (.pointer (some ⟨E, 0, none⟩)) 20 = idArr eid := hEF.rd
                have hq := eqV_id eid
                have hbs : (by_.toList == by_.toList) = true := by simp
                go_region_with (go_at_call 5; refine (id_any eid _ he).mono ?_; rintro e w1 ⟨rfl, hb1⟩; obtain ⟨p1, p2⟩ : okV w1 (.pointer (some ⟨E, 0, none⟩)) 20 = true ∧ rdV w1 (.pointer (some ⟨E, 0, none⟩)) 20 = idArr eid := (hEF.same ((below_undrew hb1).block _ hEF.lt)).rd; obtain ⟨j0, j16⟩ := (hF.below (below_undrew hb1)).idx.cells; have hle := MapG.len (hF.below (below_undrew hb1)).me Yba.underlying28)
                all_goals
                  go_wp2_with fail
                  go_meet
                  exact ⟨rfl, below_undrew hb1⟩
              case rest =>
                obtain ⟨rfl, hbx⟩ := hcut
                have hF2 := hF.below hbx
                have hrow2 := owns_same hrow (w' := wc) (fun b hb => hbx.block b (owns_lt hrow hb))
                have hB2 : Below B w wc := hBF.trans (hbx.mono (by have := hF.idx.lt; have := hBF.size; omega))
                clear hF hrow hEF e30 i0 i16 hbx
                rename_i K1 h1 K0 h0
                rw [← hcR] at hF2
                have hK := fun (y0 y1 y2 y3 y4 y5 y6 y7 y8 y9 y10 y11 y12 y15 y16 y17 y18 y19 y20 y21 y22 y24 y25 y26 y27 y28 y29 y30 y31 y32 y33 y34 y35 y36 y37 y38 y39 y40 y41 y42 y43 y44 y45 y46 y47 y48 y49 y50 y51 y52 y53 y54 y55 y56 y57 y58 y59 y60 y61 y62 y63 y64 y65 y66 y67 y68 y69 y70 y71 y72 y73 y74 y75 y76 y77 y78 y79 y80 y81 y82 y83 y84 y85 y86 y87 y88 y89 y90 y91 y92 y93 y94 y95 y96 y97 y98 y99 y100 y101 y102 y103 y104 y105 y106 y107 y108 y109 y110 y111 y112 y113 y114 y115 y116 y117 y118 y119 y120 y121 y122 y123 y124 y125 y126 y127 y128 y129 y130 y131 y132 y133 y134 y135 y136 y137 y138 y139 y140 y141 y142 y143 y144 y145 y146 y147 y148 y149 y150 y151 y152 y153 y154 y155 y156 y157 y158 y159 y160 y161 y162 y163 y164 y165 y166 y167 y168 y169 y170 y171 y172 y173 y174 y175 y176 y177 y178 y179 y180 y181 y182 y183 y184 y185 y186 y187 y188 y189 y190 y191 y192 y193 y194 y195 y196 y197 y198 y199 y200 y201 y202 y203 y204 y205 y206 y207 y208 y209 y210 y211 y212 y213 y214 y215 y216 y217 y218 y219 y220 y221 y222 y223 y224 y225 y226 y227 y228 y229 y230 y231 y232 y233 y234 y235 y236 y237 y238 y239 y240 y241 y242 y243 y244 y245 y246 y247 y248 y249 y250 y251 y252 y253 y254 y255 y256 y257 y258 y259 y260 y261 y262 y263 y264 y265 y266 y267 y268 y269 y270 y271 y272 y273 y274 y275 y276 y277 y278 y279 y280 y281 y282 y283 y284 y285 y286 y287 y288 y289 y290 y291 y292 y293 y294 y295 y296 y297 y298 y299 y300 y301 y302 y303 y304 y305 y306 y307 y308 y309 y310 y311 y312 y313 y314 y315 y316 y317 y318 y319 y320 y321 y322 y323 y324 y325 y326 y327 y328 y329 y330 y331 y332 y333 y334 y335 y336 y337 y338 y339 y340 y341 y342 : Value) => h1 _ _ (tail52 w wc B I mE mW G3 c3 WL u14 hB1 hF2 hrow2 hGl3 hB2 hrv y0 y1 y2 y3 y4 y5 y6 y7 y8 y9 y10 y11 y12 y15 y16 y17 y18 y19 y20 y21 y22 y24 y25 y26 y27 y28 y29 y30 y31 y32 y33 y34 y35 y36 y37 y38 y39 y40 y41 y42 y43 y44 y45 y46 y47 y48 y49 y50 y51 y52 y53 y54 y55 y56 y57 y58 y59 y60 y61 y62 y63 y64 y65 y66 y67 y68 y69 y70 y71 y72 y73 y74 y75 y76 y77 y78 y79 y80 y81 y82 y83 y84 y85 y86 y87 y88 y89 y90 y91 y92 y93 y94 y95 y96 y97 y98 y99 y100 y101 y102 y103 y104 y105 y106 y107 y108 y109 y110 y111 y112 y113 y114 y115 y116 y117 y118 y119 y120 y121 y122 y123 y124 y125 y126 y127 y128 y129 y130 y131 y132 y133 y134 y135 y136 y137 y138 y139 y140 y141 y142 y143 y144 y145 y146 y147 y148 y149 y150 y151 y152 y153 y154 y155 y156 y157 y158 y159 y160 y161 y162 y163 y164 y165 y166 y167 y168 y169 y170 y171 y172 y173 y174 y175 y176 y177 y178 y179 y180 y181 y182 y183 y184 y185 y186 y187 y188 y189 y190 y191 y192 y193 y194 y195 y196 y197 y198 y199 y200 y201 y202 y203 y204 y205 y206 y207 y208 y209 y210 y211 y212 y213 y214 y215 y216 y217 y218 y219 y220 y221 y222 y223 y224 y225 y226 y227 y228 y229 y230 y231 y232 y233 y234 y235 y236 y237 y238 y239 y240 y241 y242 y243 y244 y245 y246 y247 y248 y249 y250 y251 y252 y253 y254 y255 y256 y257 y258 y259 y260 y261 y262 y263 y264 y265 y266 y267 y268 y269 y270 y271 y272 y273 y274 y275 y276 y277 y278 y279 y280 y281 y282 y283 y284 y285 y286 y287 y288 y289 y290 y291 y292 y293 y294 y295 y296 y297 y298 y299 y300 y301 y302 y303 y304 y305 y306 y307 y308 y309 y310 y311 y312 y313 y314 y315 y316 y317 y318 y319 y320 y321 y322 y323 y324 y325 y326 y327 y328 y329 y330 y331 y332 y333 y334 y335 y336 y337 y338 y339 y340 y341 y342)
                rw [hcR] at hK
                clear h1 hF2 hrow2 hGl3 hcR hrv
                go_wp2_with fail
                exact hK _ _ _ _ _ _ _ _ _ _ _ _ _ _ _ _ _ _ _ _ _ _ _ _ _ _ _ _ _ _ _ _ _ _ _ _ _ _ _ _ _ _ _ _ _ _ _ _ _ _ _ _ _ _ _ _ _ _ _ _ _ _ _ _ _ _ _ _ _ _ _ _ _ _ _ _ _ _ _ _ _ _ _ _ _ _ _ _ _ _ _ _ _ _ _ _ _ _ _ _ _ _ _ _ _ _ _ _ _ _ _ _ _ _ _ _ _ _ _ _ _ _ _ _ _ _ _ _ _ _ _ _ _ _ _ _ _ _ _ _ _ _ _ _ _ _ _ _ _ _ _ _ _ _ _ _ _ _ _ _ _ _ _ _ _ _ _ _ _ _ _ _ _ _ _ _ _ _ _ _ _ _ _ _ _ _ _ _ _ _ _ _ _ _ _ _ _ _ _ _ _ _ _ _ _ _ _ _ _ _ _ _ _ _ _ _ _ _ _ _ _ _ _ _ _ _ _ _ _ _ _ _ _ _ _ _ _ _ _ _ _ _ _ _ _ _ _ _ _ _ _ _ _ _ _ _ _ _ _ _ _ _ _ _ _ _ _ _ _ _ _ _ _ _ _ _ _ _ _ _ _ _ _ _ _ _ _ _ _ _ _ _ _ _ _ _ _ _ _ _ _ _ _ _ _ _ _ _ _ _ _ _ _ _ _ _ _ _ _ _ _ _ _ _ _ _ _ _ _ _ _ _ _ _ _ _ _ _ _ _

end Go.Proofs.Ybulkdiba
