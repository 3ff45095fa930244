import Derived.Test.YbulkdiccEnd
namespace Go.Proofs.Ybulkdicc
open Go.RowKit
set_option linter.unusedVariables false

noncomputable def C41 : Code := ((Yba.f5.body.bind (fromS 41)).getD .skip)

set_option maxHeartbeats 20000000 in
set_option maxRecDepth 1000000 in
theorem tail41 (w wI : World) (B gF cK cF cG cI : Nat) (aK aF aG aI : Option Addr) (K I L : List (Sp Int)) (F : List (Nat × Nat)) (hms : mergeL K I = L) (hB : w.heap.size = B) (fK : SAt wI (some ⟨B, 0, none⟩) K) (fF : MAt wI (some ⟨gF, 0, none⟩) F) (fKc : SAt wI aK K) (fFc : MAt wI aF F) (fG : SAt wI aG L) (fI : SAt wI aI I) (hKn : K.length ≤ 4096) (hFn : F.length ≤ 4096) (hIn : I.length ≤ 4096) (fB : Below B w wI)
    (y0 y1 y2 y3 y4 y5 y6 y8 y9 y10 y11 y12 y14 y15 y16 y17 y20 y23 y24 y25 y26 y27 y28 y29 y30 y31 y32 y33 y34 y35 y36 y37 y38 y39 y40 y41 y42 y43 y44 y45 y46 y47 y48 y49 y50 y51 y52 y53 y54 y55 y56 y57 y58 y59 y60 y61 y62 y63 y64 y65 y66 y67 y68 y69 y70 y71 y72 y73 y74 y75 y76 y77 y78 y79 y80 y81 y82 y83 y84 y85 y86 y87 y88 y89 y90 y91 y92 y93 y94 y95 y96 y97 y98 y99 y100 y101 y102 y103 y104 y105 y106 y107 y108 y109 y110 y111 y112 y113 y114 y115 y116 y117 y118 y119 y120 y121 y122 y123 y124 y125 y126 y127 y128 y129 y130 y131 y132 y133 y134 y135 y136 y137 y138 y139 y140 y141 y142 y143 y144 y145 y146 y147 y148 y149 y150 y151 y152 y153 y154 y155 y156 y157 y158 y159 y160 y161 y162 y163 y164 y165 y166 y167 y168 y169 y170 y171 y172 y173 y174 y175 y176 y177 y178 y179 y180 y181 y182 y183 y184 y185 y186 y187 y188 y189 y190 y191 y192 y193 y194 y195 y196 y197 y198 y199 y200 y201 y202 y203 y204 y205 y206 y207 y208 y209 y210 y211 y212 y213 y214 y215 y216 y217 y218 y219 y220 y221 y222 y223 y224 y225 y226 y227 y228 y229 y230 y231 : Value) :
    Code.wp Yba.prog C41 (bodyPost Yba.prog Yba.f5 fun e w' => e = .returned (.bool true) ∧ Below w.heap.size w w') ⟨#[y0, y1, y2, y3, y4, y5, y6, .slice (some ⟨B, 0, none⟩) K.length K.length, y8, y9, y10, y11, y12, .slice (some ⟨gF, 0, none⟩) F.length F.length, y14, y15, y16, y17, .slice aK K.length cK, .slice aF F.length cF, y20, .slice aG L.length cG, .slice aI I.length cI, y23, y24, y25, y26, y27, y28, y29, y30, y31, y32, y33, y34, y35, y36, y37, y38, y39, y40, y41, y42, y43, y44, y45, y46, y47, y48, y49, y50, y51, y52, y53, y54, y55, y56, y57, y58, y59, y60, y61, y62, y63, y64, y65, y66, y67, y68, y69, y70, y71, y72, y73, y74, y75, y76, y77, y78, y79, y80, y81, y82, y83, y84, y85, y86, y87, y88, y89, y90, y91, y92, y93, y94, y95, y96, y97, y98, y99, y100, y101, y102, y103, y104, y105, y106, y107, y108, y109, y110, y111, y112, y113, y114, y115, y116, y117, y118, y119, y120, y121, y122, y123, y124, y125, y126, y127, y128, y129, y130, y131, y132, y133, y134, y135, y136, y137, y138, y139, y140, y141, y142, y143, y144, y145, y146, y147, y148, y149, y150, y151, y152, y153, y154, y155, y156, y157, y158, y159, y160, y161, y162, y163, y164, y165, y166, y167, y168, y169, y170, y171, y172, y173, y174, y175, y176, y177, y178, y179, y180, y181, y182, y183, y184, y185, y186, y187, y188, y189, y190, y191, y192, y193, y194, y195, y196, y197, y198, y199, y200, y201, y202, y203, y204, y205, y206, y207, y208, y209, y210, y211, y212, y213, y214, y215, y216, y217, y218, y219, y220, y221, y222, y223, y224, y225, y226, y227, y228, y229, y230, y231], []⟩ wI := by
  subst hms
  show (let Q' := bodyPost Yba.prog Yba.f5 fun e w' => e = .returned (.bool true) ∧ Below w.heap.size w w'; Code.wp Yba.prog C41 Q' _ wI)
  intro Q'
  conv => arg 2; whnf
  obtain ⟨i50, hi50, z50, s50, b50⟩ := info_parts Yba.info50
  go_wp2_with (at_make; refine wpList_make_own _ rfl _ _ 42 rfl wI.heap.size 50 i50 _ 3 Yba.underlying42 hi50 z50 s50 _ _ _ (K.length + I.length) rfl rfl (by omega) ?b6 ?b7 (Nat.le_refl _) ?_)
  case b6 => rw [b50]; omega
  case b7 => unfold maxLen; omega
  intro wW hownW hgW
  have hM0 : Mrg wI wW K I 0 0 [] := ⟨by simpa [SRow] using hownW, by simp, (Below.refl _ _).grown hgW (Nat.le_refl _) (fun k h => by cases h)⟩
  clear hownW hgW
  go_wp2_with fail
  go_loopw [28, 29, 30] (fun v iv jv w7 => ∃ i j out, i ≤ K.length ∧ j ≤ I.length ∧ v = .slice (some ⟨wI.heap.size, 0, none⟩) out.length (K.length + I.length) ∧ iv = .int .i64 (i : Nat) ∧ jv = .int .i64 (j : Nat) ∧ Mrg wI w7 K I i j out) (fun _ iv jv _ => K.length + I.length - ((intOf iv).toNat + (intOf jv).toNat))
  case atStart => exact ⟨0, 0, [], Nat.zero_le _, Nat.zero_le _, rfl, rfl, rfl, hM0⟩
  case round =>
    clear hM0
    rename_i K0 h0
    obtain ⟨i, j, out, hi, hj, rfl, rfl, rfl, hM⟩ := hrel
    have gK := fK.same hM.2.2
    have gI := fI.same hM.2.2
    have hlen := hM.len
    by_cases hil : i < K.length
    · obtain ⟨gk, hg, k0, k1, k2⟩ := gK.at_ i hil
      cases hg
      have hd2 : decide (i < K.length) = true := by simpa using hil
      by_cases hjl : j < I.length
      · have hd1 : decide (I.length ≤ j) = false := by simp; omega
        obtain ⟨gi, hg, j0, j1, j2⟩ := gI.at_ j hjl
        subst hg
        by_cases hcmp : (K[i]).s < (I[j]).s
        · have hd3 : decide ((K[i]).s < (I[j]).s) = true := by simpa using hcmp
          have hst := merge_k hil (I := I) (j := j) (fun _ => hcmp)
          rw [hst, List.length_cons] at hlen
          go_upto_region 44 with fail
          go_quiet (fail)
          have hMq := hM.next (drewN_below wr nq)
          clear hM gK gI k0 k1 k2 j0 j1 j2 hd1 hd2 hd3
          generalize wr.drewN nq = wq at *
          obtain ⟨g5, hg5, k0, k1, k2⟩ := (fK.same hMq.2.2).at_ i hil
          cases hg5
          go_wp2_with (at_builtin; refine wpList_append_fits _ rfl (.tmp 186) (.tmp 191) 42 rfl wI.heap.size 50 i50 3 Yba.underlying42 hi50 s50 wI.heap.size out.length (K.length + I.length) (out.flatMap spC) rfl (World.ownsRow.alloc hMq.1 _) ⟨wq.heap.size, 0, none⟩ 1 1 (spC K[i]) rfl rfl (news3 _ _) (spC_one1 _) (by omega) ?_)
          intro w3 hr3 hg3
          have hM3 := hMq.push hr3 hg3 (i' := i + 1) (j' := j) (by rw [hst])
          clear hr3 hg3 hMq
          go_wp2_with fail
          go_roundw
          case rel => exact ⟨i + 1, j, _, by omega, hj, by simp, by go_num, rfl, hM3⟩
          case measure => simp [intOf]; omega
        · have hd3 : decide ((K[i]).s < (I[j]).s) = false := by simp; omega
          have hst := merge_i hjl (K := K) (i := i) (fun _ => hcmp)
          rw [hst, List.length_cons] at hlen
          go_upto_region 44 with fail
          go_quiet (fail)
          have hMq := hM.next (drewN_below wr nq)
          clear hM gK gI k0 k1 k2 j0 j1 j2 hd1 hd2 hd3
          generalize wr.drewN nq = wq at *
          obtain ⟨g5, hg5, k0, k1, k2⟩ := (fI.same hMq.2.2).at_ j hjl
          cases hg5
          go_wp2_with (at_builtin; refine wpList_append_fits _ rfl (.tmp 195) (.tmp 200) 42 rfl wI.heap.size 50 i50 3 Yba.underlying42 hi50 s50 wI.heap.size out.length (K.length + I.length) (out.flatMap spC) rfl (World.ownsRow.alloc hMq.1 _) ⟨wq.heap.size, 0, none⟩ 1 1 (spC I[j]) rfl rfl (news3 _ _) (spC_one1 _) (by omega) ?_)
          intro w3 hr3 hg3
          have hM3 := hMq.push hr3 hg3 (i' := i) (j' := j + 1) (by rw [hst])
          clear hr3 hg3 hMq
          go_wp2_with fail
          go_roundw
          case rel => exact ⟨i, j + 1, _, hi, by omega, by simp, rfl, by go_num, hM3⟩
          case measure => simp [intOf]; omega
      · obtain rfl : j = I.length := by omega
        have hd1 : decide ((I.length : Int) ≤ (I.length : Int)) = true := by simp
        have hst := merge_k hil (I := I) (j := I.length) (fun h => absurd h hjl)
        rw [hst, List.length_cons] at hlen
        go_upto_region 44 with fail
        go_quiet (fail)
        have hMq := hM.next (drewN_below wr nq)
        clear hM gK gI k0 k1 k2 hd1 hd2
        generalize wr.drewN nq = wq at *
        obtain ⟨g5, hg5, k0, k1, k2⟩ := (fK.same hMq.2.2).at_ i hil
        cases hg5
        go_wp2_with (at_builtin; refine wpList_append_fits _ rfl (.tmp 186) (.tmp 191) 42 rfl wI.heap.size 50 i50 3 Yba.underlying42 hi50 s50 wI.heap.size out.length (K.length + I.length) (out.flatMap spC) rfl (World.ownsRow.alloc hMq.1 _) ⟨wq.heap.size, 0, none⟩ 1 1 (spC K[i]) rfl rfl (news3 _ _) (spC_one1 _) (by omega) ?_)
        intro w3 hr3 hg3
        have hM3 := hMq.push hr3 hg3 (i' := i + 1) (j' := I.length) (by rw [hst])
        clear hr3 hg3 hMq
        go_wp2_with fail
        go_roundw
        case rel => exact ⟨i + 1, I.length, _, by omega, hj, by simp, by go_num, rfl, hM3⟩
        case measure => simp [intOf]; omega
    · by_cases hjl : j < I.length
      · obtain rfl : i = K.length := by omega
        have hd2 : decide ((K.length : Int) < (K.length : Int)) = false := by simp
        have hd1 : decide (I.length ≤ j) = false := by simp; omega
        obtain ⟨gi, hg, j0, j1, j2⟩ := gI.at_ j hjl
        subst hg
        have hst := merge_i hjl (K := K) (i := K.length) (fun h => absurd h hil)
        rw [hst, List.length_cons] at hlen
        go_upto_region 44 with fail
        go_quiet (fail)
        have hMq := hM.next (drewN_below wr nq)
        clear hM gK gI j0 j1 j2 hd1 hd2
        generalize wr.drewN nq = wq at *
        obtain ⟨g5, hg5, k0, k1, k2⟩ := (fI.same hMq.2.2).at_ j hjl
        cases hg5
        go_wp2_with (at_builtin; refine wpList_append_fits _ rfl (.tmp 195) (.tmp 200) 42 rfl wI.heap.size 50 i50 3 Yba.underlying42 hi50 s50 wI.heap.size out.length (K.length + I.length) (out.flatMap spC) rfl (World.ownsRow.alloc hMq.1 _) ⟨wq.heap.size, 0, none⟩ 1 1 (spC I[j]) rfl rfl (news3 _ _) (spC_one1 _) (by omega) ?_)
        intro w3 hr3 hg3
        have hM3 := hMq.push hr3 hg3 (i' := K.length) (j' := j + 1) (by rw [hst])
        clear hr3 hg3 hMq
        go_wp2_with fail
        go_roundw
        case rel => exact ⟨K.length, j + 1, _, hi, by omega, by simp, rfl, by go_num, hM3⟩
        case measure => simp [intOf]; omega
      · have hout := hM.done (by omega) (by omega)
        have hl2 := mergeL_len K I
        subst hout
        obtain ⟨_, _, he, _, fW⟩ := hM.1.form
        obtain ⟨rfl, rfl⟩ : _ ∧ _ := by simpa using he
        have hK := fun (y0 y1 y2 y3 y4 y5 y6 y8 y9 y10 y11 y12 y14 y15 y16 y17 y20 y22 y23 y24 y25 y26 y27 y29 y30 y31 y32 y33 y34 y35 y36 y37 y38 y39 y40 y41 y42 y43 y44 y45 y46 y47 y48 y49 y50 y51 y52 y53 y54 y55 y56 y57 y58 y59 y60 y61 y62 y63 y64 y65 y66 y67 y68 y69 y70 y71 y72 y73 y74 y75 y76 y77 y78 y79 y80 y81 y82 y83 y84 y85 y86 y87 y88 y89 y90 y91 y92 y93 y94 y95 y96 y97 y98 y99 y100 y101 y102 y103 y104 y105 y106 y107 y108 y109 y110 y111 y112 y113 y114 y115 y116 y117 y118 y119 y120 y121 y122 y123 y124 y125 y126 y127 y128 y129 y130 y131 y132 y133 y134 y135 y136 y137 y138 y139 y140 y141 y142 y143 y144 y145 y146 y147 y148 y149 y150 y151 y152 y153 y154 y155 y156 y157 y158 y159 y160 y161 y162 y163 y164 y165 y166 y167 y168 y169 y170 y171 y172 y173 y174 y175 y176 y177 y178 y179 y180 y181 y182 y183 y184 y185 y186 y187 y188 y189 y190 y191 y192 y193 y194 y195 y196 y197 y198 y199 y200 y201 y202 y203 y204 y205 y206 y207 y208 y209 y210 y211 y212 y213 y214 y215 y216 y217 y218 y219 y220 y221 y222 y223 y224 y225 y226 y227 y228 y229 y230 y231 : Value) => h0 _ _ (tail49 w wr B gF cK cF cG (K.length + I.length) aK aF aG (some ⟨wI.heap.size, 0, none⟩) K (mergeL K I) F hB (fK.same hM.2.2) (fF.same hM.2.2) (fKc.same hM.2.2) (fFc.same hM.2.2) (fG.same hM.2.2) fW hKn hFn (by omega) (fB.trans (hM.2.2.mono (by have := fB.size; omega))) y0 y1 y2 y3 y4 y5 y6 y8 y9 y10 y11 y12 y14 y15 y16 y17 y20 y22 y23 y24 y25 y26 y27 y29 y30 y31 y32 y33 y34 y35 y36 y37 y38 y39 y40 y41 y42 y43 y44 y45 y46 y47 y48 y49 y50 y51 y52 y53 y54 y55 y56 y57 y58 y59 y60 y61 y62 y63 y64 y65 y66 y67 y68 y69 y70 y71 y72 y73 y74 y75 y76 y77 y78 y79 y80 y81 y82 y83 y84 y85 y86 y87 y88 y89 y90 y91 y92 y93 y94 y95 y96 y97 y98 y99 y100 y101 y102 y103 y104 y105 y106 y107 y108 y109 y110 y111 y112 y113 y114 y115 y116 y117 y118 y119 y120 y121 y122 y123 y124 y125 y126 y127 y128 y129 y130 y131 y132 y133 y134 y135 y136 y137 y138 y139 y140 y141 y142 y143 y144 y145 y146 y147 y148 y149 y150 y151 y152 y153 y154 y155 y156 y157 y158 y159 y160 y161 y162 y163 y164 y165 y166 y167 y168 y169 y170 y171 y172 y173 y174 y175 y176 y177 y178 y179 y180 y181 y182 y183 y184 y185 y186 y187 y188 y189 y190 y191 y192 y193 y194 y195 y196 y197 y198 y199 y200 y201 y202 y203 y204 y205 y206 y207 y208 y209 y210 y211 y212 y213 y214 y215 y216 y217 y218 y219 y220 y221 y222 y223 y224 y225 y226 y227 y228 y229 y230 y231)
        clear h0
        go_wp2_with fail
        exact hK _ _ _ _ _ _ _ _ _ _ _ _ _ _ _ _ _ _ _ _ _ _ _ _ _ _ _ _ _ _ _ _ _ _ _ _ _ _ _ _ _ _ _ _ _ _ _ _ _ _ _ _ _ _ _ _ _ _ _ _ _ _ _ _ _ _ _ _ _ _ _ _ _ _ _ _ _ _ _ _ _ _ _ _ _ _ _ _ _ _ _ _ _ _ _ _ _ _ _ _ _ _ _ _ _ _ _ _ _ _ _ _ _ _ _ _ _ _ _ _ _ _ _ _ _ _ _ _ _ _ _ _ _ _ _ _ _ _ _ _ _ _ _ _ _ _ _ _ _ _ _ _ _ _ _ _ _ _ _ _ _ _ _ _ _ _ _ _ _ _ _ _ _ _ _ _ _ _ _ _ _ _ _ _ _ _ _ _ _ _ _ _ _ _ _ _ _ _ _ _ _ _ _ _ _ _ _ _ _ _ _ _ _ _ _ _ _ _ _ _ _ _ _ _ _ _

end Go.Proofs.Ybulkdicc
