import Derived.Test.YbulkdibaEnd
namespace Go.Proofs.Ybulkdiba
open Go.RowKit Go.Maps
set_option linter.unusedVariables false
attribute [local go_sem ↓] exec_load49 wp_load49 exec_load42 exec_load24 exec_build57 wp_build57 exec_neq49 wp_neq49 exec_neq42 wp_neq42 Go.wp_at_zero Go.wp_at_succ

/-- The code from a region on. -/
def fromR (n : Nat) : Code → Option Code
  | .seq (.region m ops d) b => if m = n then some (.seq (.region m ops d) b) else fromR n b
  | .seq a b => match fromR n a with
    | some c => some c
    | none => fromR n b
  | .block _ c => fromR n c
  | .scope c => fromR n c
  | _ => none
noncomputable def C52 : Code := ((Yba.f3.body.bind (fromR 51)).getD .skip)

set_option maxHeartbeats 20000000 in
set_option maxRecDepth 1000000 in
theorem tail52 (w wc : World) (B I mE mW : Nat) (G3 : List Rec) (c3 : Option Rec) (WL : List (ByteArray × Nat)) (u14 : Value) (hB1 : w.heap.size = B) (hF2 : Fin wc I mE mW (G3 ++ c3.toList) WL (c3.map (·.R))) (hrow2 : wc.ownsRow 0 39 1 u14 G3.length (G3.map fun r => ptr r.R)) (hGl3 : G3.length ≤ 4096) (hB2 : Below B w wc) (hrv : ∀ b, u14.ownBlock = some b → B ≤ b)
    (y0 y1 y2 y3 y4 y5 y6 y7 y8 y9 y10 y11 y12 y15 y16 y17 y18 y19 y20 y21 y22 y24 y25 y26 y27 y28 y29 y30 y31 y32 y33 y34 y35 y36 y37 y38 y39 y40 y41 y42 y43 y44 y45 y46 y47 y48 y49 y50 y51 y52 y53 y54 y55 y56 y57 y58 y59 y60 y61 y62 y63 y64 y65 y66 y67 y68 y69 y70 y71 y72 y73 y74 y75 y76 y77 y78 y79 y80 y81 y82 y83 y84 y85 y86 y87 y88 y89 y90 y91 y92 y93 y94 y95 y96 y97 y98 y99 y100 y101 y102 y103 y104 y105 y106 y107 y108 y109 y110 y111 y112 y113 y114 y115 y116 y117 y118 y119 y120 y121 y122 y123 y124 y125 y126 y127 y128 y129 y130 y131 y132 y133 y134 y135 y136 y137 y138 y139 y140 y141 y142 y143 y144 y145 y146 y147 y148 y149 y150 y151 y152 y153 y154 y155 y156 y157 y158 y159 y160 y161 y162 y163 y164 y165 y166 y167 y168 y169 y170 y171 y172 y173 y174 y175 y176 y177 y178 y179 y180 y181 y182 y183 y184 y185 y186 y187 y188 y189 y190 y191 y192 y193 y194 y195 y196 y197 y198 y199 y200 y201 y202 y203 y204 y205 y206 y207 y208 y209 y210 y211 y212 y213 y214 y215 y216 y217 y218 y219 y220 y221 y222 y223 y224 y225 y226 y227 y228 y229 y230 y231 y232 y233 y234 y235 y236 y237 y238 y239 y240 y241 y242 y243 y244 y245 y246 y247 y248 y249 y250 y251 y252 y253 y254 y255 y256 y257 y258 y259 y260 y261 y262 y263 y264 y265 y266 y267 y268 y269 y270 y271 y272 y273 y274 y275 y276 y277 y278 y279 y280 y281 y282 y283 y284 y285 y286 y287 y288 y289 y290 y291 y292 y293 y294 y295 y296 y297 y298 y299 y300 y301 y302 y303 y304 y305 y306 y307 y308 y309 y310 y311 y312 y313 y314 y315 y316 y317 y318 y319 y320 y321 y322 y323 y324 y325 y326 y327 y328 y329 y330 y331 y332 y333 y334 y335 y336 y337 y338 y339 y340 y341 y342 : Value) :
    Code.wp Yba.prog C52 (bodyPost Yba.prog Yba.f3 fun e w' => e = .returned (.bool true) ∧ Below w.heap.size w w') ⟨#[y0, y1, y2, y3, y4, y5, y6, y7, y8, y9, y10, y11, y12, .pointer (some ⟨I, 0, none⟩), u14, y15, y16, y17, y18, y19, y20, y21, y22, ptrO (c3.map (·.R)), y24, y25, y26, y27, y28, y29, y30, y31, y32, y33, y34, y35, y36, y37, y38, y39, y40, y41, y42, y43, y44, y45, y46, y47, y48, y49, y50, y51, y52, y53, y54, y55, y56, y57, y58, y59, y60, y61, y62, y63, y64, y65, y66, y67, y68, y69, y70, y71, y72, y73, y74, y75, y76, y77, y78, y79, y80, y81, y82, y83, y84, y85, y86, y87, y88, y89, y90, y91, y92, y93, y94, y95, y96, y97, y98, y99, y100, y101, y102, y103, y104, y105, y106, y107, y108, y109, y110, y111, y112, y113, y114, y115, y116, y117, y118, y119, y120, y121, y122, y123, y124, y125, y126, y127, y128, y129, y130, y131, y132, y133, y134, y135, y136, y137, y138, y139, y140, y141, y142, y143, y144, y145, y146, y147, y148, y149, y150, y151, y152, y153, y154, y155, y156, y157, y158, y159, y160, y161, y162, y163, y164, y165, y166, y167, y168, y169, y170, y171, y172, y173, y174, y175, y176, y177, y178, y179, y180, y181, y182, y183, y184, y185, y186, y187, y188, y189, y190, y191, y192, y193, y194, y195, y196, y197, y198, y199, y200, y201, y202, y203, y204, y205, y206, y207, y208, y209, y210, y211, y212, y213, y214, y215, y216, y217, y218, y219, y220, y221, y222, y223, y224, y225, y226, y227, y228, y229, y230, y231, y232, y233, y234, y235, y236, y237, y238, y239, y240, y241, y242, y243, y244, y245, y246, y247, y248, y249, y250, y251, y252, y253, y254, y255, y256, y257, y258, y259, y260, y261, y262, y263, y264, y265, y266, y267, y268, y269, y270, y271, y272, y273, y274, y275, y276, y277, y278, y279, y280, y281, y282, y283, y284, y285, y286, y287, y288, y289, y290, y291, y292, y293, y294, y295, y296, y297, y298, y299, y300, y301, y302, y303, y304, y305, y306, y307, y308, y309, y310, y311, y312, y313, y314, y315, y316, y317, y318, y319, y320, y321, y322, y323, y324, y325, y326, y327, y328, y329, y330, y331, y332, y333, y334, y335, y336, y337, y338, y339, y340, y341, y342], []⟩ wc := by
  show (let Q' := bodyPost Yba.prog Yba.f3 fun e w' => e = .returned (.bool true) ∧ Below w.heap.size w w'; Code.wp Yba.prog C52 Q' _ wc)
  intro Q'
  conv => arg 2; whnf
  have hGA : (G3 ++ c3.toList).length ≤ 4097 := by
    rw [List.length_append]; cases c3 <;> simp <;> omega
  rw [ptrO_eq]
  obtain ⟨pc, hpc⟩ : ∃ pc, adO (c3.map (·.R)) = pc := ⟨_, rfl⟩
  rw [hpc]
  go_upto_if 242 with fail
  generalize hbx : pc.isSome = bx
  go_cut [26] from 243 to 246 (fun v wx => ∃ GA, wx.ownsRow 0 39 1 v GA.length (GA.map fun r => ptr r.R) ∧ Fin wx I mE mW GA WL (c3.map (·.R)) ∧ GA.length ≤ 4097 ∧ Below B w wx ∧ ∀ cN, c3.map (·.R) = some cN → ∃ cs, wx.heap[cN]? = some (.cells cs 47 (0, 0)))
  case first => 
    rcases c3 with _ | cN
    · simp only [Option.map_none, adO] at hpc
      obtain rfl : bx = false := by rw [← hbx, ← hpc]; rfl
      simp only [Option.toList_none, List.append_nil, Option.map_none] at hF2 hGA
      subst hpc
      clear hbx
      go_wp2_with fail
      go_meet
      exact ⟨G3, hrow2, hF2, hGA, hB2, fun cN h => by cases h⟩
    · simp only [Option.map_some, adO] at hpc
      obtain rfl : bx = true := by rw [← hbx, ← hpc]; rfl
      subst hpc
      clear hbx
      simp only [Option.toList_some, Option.map_some] at hF2 hGA
      obtain ⟨i39, hi39, z39, s39, b39⟩ := info_parts Yba.info39
      go_wp2_with (at_builtin; refine wpList_append_own_at _ rfl (.tmp 243) (.tmp 245) 38 rfl 0 39 i39 (.pointer none) 1 8 Yba.underlying38 hi39 z39 s39 b39 rfl (by decide) _ _ _ rfl (World.ownsRow.alloc hrow2 _) ⟨wc.heap.size, 0, none⟩ 1 1 [.pointer (some ⟨cN.R, 0, none⟩)] rfl rfl (cell_one_new _ _ _) ?c2 (by unfold maxLen; omega) (by omega) (by simp) ?_)
      case c2 => rfl
      intro v3 w3 hrow3 hg3 _ hl3
      have hf3 : Fr (fun x => u14.ownBlock = some x) wc w3 := ((Fr.refl _ wc).alloc _).trans (Fr.of_grown hg3)
      have hF3 := hF2.grow hrow2 hf3
      have hB5 : Below B w w3 := hB2.trans (hf3.below (by have := hB2.size; omega) hrv)
      have hrow4 : w3.ownsRow 0 39 1 v3 (G3 ++ [cN]).length ((G3 ++ [cN]).map fun r => ptr r.R) := by simpa [ptr] using hrow3
      clear hrow3 hg3 hl3 hf3
      go_wp2_with fail
      go_meet
      refine ⟨G3 ++ [cN], hrow4, hF3, hGA, hB5, fun c h => ?_⟩
      simp only [Option.map_some, Option.some.injEq] at h
      subst h
      obtain ⟨cs, hc, _⟩ := (hF3.all cN (by simp)).rc
      exact ⟨cs, hc⟩
  case rest =>
    obtain ⟨GA, hrowA, hF, hGA2, hB5, hcre⟩ := hcut
    clear hF2 hrow2 hGA hGl3 hB2
    generalize c3.map (·.R) = crR at *
    generalize wc = wA at hrowA hF hB5 hcre ⊢
    obtain ⟨ra, rc, rfl, _, _, hnc, hcells⟩ := owns_parts hrowA
    clear hbx
    go_wp2_with fail
    go_loopw [27, 249] (fun cnt i wr => ∃ q : Nat, q ≤ GA.length ∧ i = .int .i64 q ∧ cnt = .int .i64 (cntG GA q) ∧ Below wA.heap.size wA wr) (fun _ i _ => GA.length - (intOf i).toNat)
    case atStart => exact ⟨0, Nat.zero_le _, rfl, rfl, Below.refl _ _⟩
    case round => 
      obtain ⟨q, hq, rfl, rfl, hbr⟩ := hrel
      have hFr := hF.below hbr
      by_cases hqlt : q < GA.length
      · rcases hcells with hz | ⟨rg, rfl, hcells⟩
        · omega
        have cR : wr.cell? ⟨rg, q, none⟩ = some (ptr (GA[q]).R) := by
          have h1 := hcells q (ptr (GA[q]).R) (by simp [hqlt])
          exact (hbr.cell (World.block_lt_of_cell? _ _ h1)).trans h1
        simp only [ptr] at cR
        have hrk := hFr.all _ (List.getElem_mem hqlt)
        obtain ⟨vL, vD, vA, vG, vW⟩ := hFr.val _ (List.getElem_mem hqlt)
        have HC : Hid (cntG GA (q + 1) = cntG GA q + (if (GA[q]).gone then 0 else 1)) := cntG_succ GA q hqlt
        have HCl : Hid (cntG GA q ≤ GA.length) := cntG_le GA q
        obtain ⟨i0, i16⟩ := hFr.idx.cells
        generalize (GA[q]) = r at *
        obtain ⟨r0, r1, r2, r3, r24, rf⟩ := hrk.rc.cells
        have hlk := fun n => hFr.map.lookOk vA n
        rw [vG] at hlk
        have HL : Hid (r.L = r.s.L) := vL
        have HD : Hid (r.dig = r.s.d) := vD
        clear vL vD vG rf hcells
        cases hgone : r.gone with
        | true =>
          rw [hgone] at hlk r24
          simp only [if_true, ptrO, Option.isSome_none] at hlk
          rw [hgone] at HC
          have HC2 : Hid (cntG GA (q + 1) = cntG GA q) := show cntG GA (q + 1) = cntG GA q by simpa using HC.out
          clear hgone HC
          go_upto_region 58 with fail
          go_quiet (fail)
          go_wp2_with fail
          go_roundw
          case rel => exact ⟨q + 1, by omega, by go_num, by rw [HC2.out], below_drewN hbr _⟩
          case measure => simp [intOf]; omega
        | false =>
          rw [hgone] at hlk r24
          simp only [Bool.false_eq_true, if_false, ptrO, ptr, Option.isSome_some] at hlk
          rw [hgone] at HC
          have HC2 : Hid (cntG GA (q + 1) = cntG GA q + 1) := show cntG GA (q + 1) = cntG GA q + 1 by simpa using HC.out
          clear hgone HC
          go_upto_region 58 with fail
          go_quiet (fail)
          obtain ⟨b1, hn1, hw1⟩ : ∃ b1 : Bool, (∀ n : Nat, (binOp .neq 39 (.pointer (some ⟨r.R, 0, none⟩)) (.pointer pc)).run Yba.prog (wr.drewN n) = .ok (.bool b1) (wr.drewN n)) ∧ (b1 = true → r.wp = some r.s.W) := neq_rec hpc hcre hrk hbr vW
          have hn2 : ∀ (a : Addr) (n : Nat), (binOp .neq 41 (.pointer (some a)) (.pointer (some a))).run Yba.prog (wr.drewN n) = .ok (.bool false) (wr.drewN n) := fun a n => neq_same Yba.underlying41 Yba.info44 a _
          go_upto_region 64 with fail
          go_cut [286] from 276 to 285 (fun v wx => v = .bool false ∧ ∃ n, wx = wr.drewN n)
          case first =>
            cases b1 with
            | false =>
              clear hw1
              go_wp2_with fail
              go_meet
              exact ⟨rfl, _, rfl⟩
            | true =>
              have hwp := hw1 rfl
              rw [hwp] at r1
              simp only [ptrO, ptr] at r1
              clear hw1 hwp
              go_wp2_with fail
              go_meet
              exact ⟨rfl, _, rfl⟩
          case rest =>
            obtain ⟨rfl, n1, rfl⟩ := hcut
            have hbs := below_drewN hbr n1
            have hrs : RecOk (wr.drewN n1) r := hrk.below (below_drewN (Below.refl _ wr) n1) (Nat.le_refl _)
            obtain ⟨ka, pa, kc, pcc, hf0, hfa⟩ := hrs.facts HL.out HD.out
            clear hn1 hn2 hw1 hlk vW vA r0 r1 r2 r3 r24 HL HD hrk i0 i16 cR hbr hFr
            generalize wr.drewN n1 = ws at *
            have hdr : ∀ n, RecOk (ws.drewN n) r := fun n => hrs.below (below_drewN (Below.refl _ ws) n) (Nat.le_refl _)
            have f2 := hf0.k
            have f3 := hf0.p
            have fm := hf0.m
            have hfew := hf0.few
            have hcl : cntG GA q ≤ 4097 := Nat.le_trans HCl.out hGA2
            obtain ⟨o1, o2⟩ : okV ws.drew (.pointer (some ⟨r.s.W, 1, none⟩)) 20 = true ∧ rdV ws.drew (.pointer (some ⟨r.s.W, 1, none⟩)) 20 = arr20 r.s.d := (hfa _ (hdr 1)).w1
            obtain ⟨o3, o4⟩ : okV ws.drew (.pointer (some ⟨r.R, 4, none⟩)) 20 = true ∧ rdV ws.drew (.pointer (some ⟨r.R, 4, none⟩)) 20 = arr20 r.s.d := (hfa _ (hdr 1)).r4
            have hq20 := eqV_20 r.s.d
            have hml : ∀ n ty, (Builtin.len_ #[28] ty #[.map (some r.s.M)]).run Yba.prog (ws.drewN n) = .ok (.int .i64 r.s.L.length) (ws.drewN n) := fun n ty => MapG.len (w := ws.drewN n) (hdr n).wr.2 Yba.underlying28 ty
            have hne : ((r.s.L.length : Int) != (r.s.L.length : Int)) = false := by simp
            go_upto_region 67 with fail
            go_region
            go_upto_region 69 with fail
            go_quiet (fail)
            clear o1 o2 o3 o4 hq20 hml
            go_wp2_with fail
            go_loopw [314] (fun i w5 => ∃ p : Nat, p ≤ r.s.L.length ∧ i = .int .i64 p ∧ Below ws.heap.size ws w5) (fun i _ => r.s.L.length - (intOf i).toNat)
            case atStart => exact ⟨0, Nat.zero_le _, rfl, below_drewN (Below.refl _ _) _⟩
            case round =>
              obtain ⟨p, hp, rfl, hb5⟩ := hrel
              clear f2 f3 fm
              by_cases hplt : p < r.s.L.length
              · have hr5 : RecOk wr r := hrs.below hb5 (Nat.le_refl _)
                have hf5 := hfa _ hr5
                obtain ⟨kg, rfl, ck⟩ := hf5.kat p hplt
                obtain ⟨pg, rfl, cp⟩ := hf5.pat p hplt
                obtain ⟨hget, hk256⟩ := MapI.place hr5.wr.2 p hplt
                have g2 := hf5.k
                have g3 := hf5.p
                have gm := hf5.m
                generalize (r.s.L[p]).1 = key at *
                generalize (r.s.L[p]).2 = ent at *
                go_upto_region 74 with fail
                go_cut [333] from 319 to 332 (fun v wx => v = .bool false ∧ Below wr.heap.size wr wx)
                case first =>
                  have hn3 : ∀ (a : Addr) (w : World), (binOp .neq 48 (.pointer (some a)) (.pointer (some a))).run Yba.prog w = .ok (.bool false) w := fun a w => neq_same Yba.underlying48 Yba.info57 a w
                  go_region_with (go_at_call 5; refine (id_any key _ hk256).mono ?_; rintro e w1 ⟨rfl, hb1⟩; have hr1 : RecOk w1 r := hr5.below (below_undrew hb1) (Nat.le_refl _); have hf1 := hfa _ hr1; have k2 := hf1.k; have k3 := hf1.p; have km := hf1.m; have cp1 : w1.cell? ⟨pg, p, none⟩ = some (.pointer (some ⟨ent, 0, none⟩)) := ((below_undrew hb1).cell (World.block_lt_of_cell? _ _ cp)).trans cp; have hlk1 : (Instr.lookup 28 (.map (some r.s.M)) (.agg (idArr key)) false).run Yba.prog w1 = .ok (.pointer (some ⟨ent, 0, none⟩)) w1 := (MapI.lookAt hr1.wr.2 hk256 0).trans (by rw [hget]; rfl))
                  all_goals
                    go_wp2_with fail
                    go_meet
                    exact ⟨rfl, below_undrew hb1⟩
                case rest =>
                  obtain ⟨rfl, hbx⟩ := hcut
                  go_wp2_with fail
                  go_roundw
                  case rel => exact ⟨p + 1, by omega, by go_num, hb5.trans (hbx.mono hb5.size)⟩
                  case measure => simp [intOf]; omega
              · go_wp2_with fail
                go_roundw
                case rel => exact ⟨q + 1, by omega, by go_num, by rw [HC2.out]; go_num, hbs.trans (hb5.mono hbs.size)⟩
                case measure => simp [intOf]; omega
      · obtain rfl : q = GA.length := by omega
        obtain ⟨i0, i16⟩ := hFr.idx.cells
        have hml := MapG.len hFr.map Yba.underlying29
        rw [cntG_all hFr]
        have hee : ((WL.length : Int) == (WL.length : Int)) = true := by simp
        clear hcells hqlt hq
        go_wp2_with fail
        go_ret
        exact ⟨rfl, by rw [hB1]; exact hB5.trans (hbr.mono (by have := hB5.size; omega))⟩

end Go.Proofs.Ybulkdiba
