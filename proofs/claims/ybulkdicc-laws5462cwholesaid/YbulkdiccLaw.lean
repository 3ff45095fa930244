import Derived.Test.YbulkdiccMid
namespace Go.Proofs.Ybulkdicc
open Go.RowKit
set_option linter.unusedVariables false
attribute [local go_sem ↓] exec_neq50 wp_neq50 exec_neq53 wp_neq53 Go.wp_at_zero Go.wp_at_succ

set_option maxHeartbeats 20000000 in
set_option maxRecDepth 100000 in
theorem law_walk (a1 a2 : Option Addr) (n1 c1 n2 c2 : Nat) (op : Int) (w : World) (h1 : Segs w a1 n1) (h2 : Segs w a2 n2) (hn1 : n1 ≤ 281474976710656) (hn2 : n2 ≤ 281474976710656) :
    Calls Yba.prog 5 #[.slice a1 n1 c1, .slice a2 n2 c2, .int .i64 op] w fun e w' => e = .returned (.bool true) ∧ Below w.heap.size w w' := by
  go_enter Yba.func5, Yba.ntmps5
  by_cases hbig : 4096 < n1 + n2
  · go_wp2_with fail
    go_ret
    exact ⟨rfl, Below.refl _ _⟩
  obtain ⟨i50, hi50, z50, s50, b50⟩ := info_parts Yba.info50
  obtain ⟨i53, hi53, z53, s53, b53⟩ := info_parts Yba.info53
  go_wp2_with (at_make; refine wpList_make_full _ rfl _ _ 42 rfl w.heap.size 50 i50 _ 3 Yba.underlying42 hi50 z50 s50 _ _ _ _ n1 rfl rfl rfl rfl ?b2 ?b3 (Nat.le_refl _) ?_)
  case b2 => rw [b50]; omega
  case b3 => unfold maxLen; omega
  intro wK hownK hgK
  obtain ⟨B, hB⟩ : ∃ B, w.heap.size = B := ⟨_, rfl⟩
  have hK0 : Bld B w wK B n1 [] 0 := by
    rw [← hB]
    exact ⟨⟨_, hownK, Fill.nil _ _ _⟩, trivial, Nat.le_refl _, Nat.le_refl _, (Below.refl _ _).grown hgK (Nat.le_refl _) (fun k h => by cases h)⟩
  rw [hB]
  clear hownK hgK
  go_wp2_with fail
  go_loopw [8, 43] (fun p i wr => ∃ K pos, K.length ≤ n1 ∧ p = .int .i64 (pos : Nat) ∧ i = .int .i64 (K.length : Nat) ∧ Bld B w wr B n1 K pos) (fun _ i _ => n1 - (intOf i).toNat)
  case atStart => exact ⟨[], 0, Nat.zero_le _, rfl, rfl, hK0⟩
  case round =>
    obtain ⟨K, pos, hKl, rfl, rfl, hS⟩ := hrel
    clear hK0
    by_cases hlt : K.length < n1
    · obtain ⟨b, o, rfl, g, l, hg, hl, c0, c1⟩ := (h1.same (by rw [hB]; exact hS.bel)) _ hlt
      obtain ⟨⟨v0, d0⟩, ⟨v1, d1⟩, ⟨v2, d2⟩, fz, hgl⟩ := hS.cells hlt
      have hpos := hS.pos_
      go_wp2_with fail
      go_roundw
      case rel => exact ⟨K ++ [⟨pos + g, pos + g + l + 1, -1 - K.length⟩], pos + g + l + 1, by simp; omega, by go_num, by simp, hS.step hlt _ ⟨pos + g, pos + g + l + 1, -1 - K.length⟩ (by simp) (by simp) (by simp) (by simp; omega) (by simp; omega)⟩
      case measure => simp [intOf]; omega
    · obtain ⟨hKn, hrowK, hordK⟩ : K.length = n1 ∧ SRow wr B (.slice (some ⟨B, 0, none⟩) n1 n1) K ∧ OrdK 0 K := ⟨by omega, hS.done (by omega), hS.ord⟩
      have hBw := hS.bel
      clear hS hKl hlt h1
      subst hKn
      go_wp2_with (at_make; refine wpList_make_full _ rfl _ _ 51 rfl wr.heap.size 53 i53 _ 2 Yba.underlying51 hi53 z53 s53 _ _ _ _ n2 rfl rfl rfl rfl ?b4 ?b5 (Nat.le_refl _) ?_)
      case b4 => rw [b53]; omega
      case b5 => unfold maxLen; omega
      intro wF hownF hgF
      have hbF : Below wr.heap.size wr wF := (Below.refl _ _).grown hgF (Nat.le_refl _) (fun k h => by cases h)
      have hrowF := hrowK.below hbF
      have hF0 : BldF wr.heap.size wF wF wr.heap.size n2 [] 0 := ⟨⟨_, hownF, Fill.nil _ _ _⟩, trivial, Nat.le_refl _, Nat.le_refl _, Below.refl _ _⟩
      have hBF : Below B w wF := hBw.trans (hbF.mono (by have := hBw.size; omega))
      have hlo : B < wr.heap.size := srow_lt hrowK
      have hFs : wr.heap.size < wF.heap.size := by
        obtain ⟨xs, hr, _⟩ := hF0.row
        exact srow_lt hr
      clear hownF hgF hbF hrowK hBw
      generalize wr.heap.size = gF at *
      clear wr
      go_wp2_with fail
      go_loopw [8, 76] (fun p i wr => ∃ F pos, F.length ≤ n2 ∧ p = .int .i64 (pos : Nat) ∧ i = .int .i64 (F.length : Nat) ∧ BldF gF wF wr gF n2 F pos) (fun _ i _ => n2 - (intOf i).toNat)
      case atStart => exact ⟨[], 0, Nat.zero_le _, rfl, rfl, hF0⟩
      case round =>
        obtain ⟨F, pos, hFl, rfl, rfl, hS⟩ := hrel
        clear hF0
        have hBr : Below B w wr := hBF.trans (hS.bel.mono (by omega))
        by_cases hlt : F.length < n2
        · obtain ⟨b, o, rfl, g, l, hg, hl, c0, c1⟩ := (h2.same (by rw [hB]; exact hBr)) _ hlt
          obtain ⟨⟨v0, d0⟩, ⟨v1, d1⟩, fz, hgl⟩ := hS.cells hlt
          have hpos := hS.pos_
          go_wp2_with fail
          go_roundw
          case rel => exact ⟨F ++ [(pos + g, pos + g + l + 1)], pos + g + l + 1, by simp; omega, by go_num, by simp, hS.step hlt _ (pos + g, pos + g + l + 1) (by simp) (by simp) (by simp) (by simp; omega) (by simp; omega)⟩
          case measure => simp [intOf]; omega
        · obtain ⟨hFn, hrowM, hordF⟩ : F.length = n2 ∧ MRow wr gF (.slice (some ⟨gF, 0, none⟩) n2 n2) F ∧ OrdF 0 F := ⟨by omega, hS.done (by omega), hS.ord⟩
          have hrowS : SRow wr B (.slice (some ⟨B, 0, none⟩) K.length K.length) K := owns_low hrowF hS.bel hlo
          clear hS hFl hlt h2 hrowF hBF
          subst hFn
          obtain ⟨_, _, he, _, hKat⟩ := hrowS.form
          obtain ⟨rfl, rfl⟩ : _ ∧ _ := by simpa using he
          obtain ⟨_, _, he, _, hFat⟩ := hrowM.form
          obtain ⟨rfl, rfl⟩ : _ ∧ _ := by simpa using he
          clear he
          go_wp2_with fail
          refine (clone_spans B K.length B K wr hrowS (by omega)).mono ?_
          rintro e wA ⟨vK, rfl, hcK, hbA⟩
          obtain ⟨aK, cK, rfl, _, hcKa⟩ := hcK.form
          have hrowM1 := hrowM.below hbA
          go_wp2_with fail
          refine (clone_matches gF F.length gF F wA hrowM1 (by omega)).mono ?_
          rintro e wB ⟨vF, rfl, hcF, hbB⟩
          obtain ⟨aF, cF, rfl, _, hcFa⟩ := hcF.form
          have hbAB : Below wr.heap.size wr wB := hbA.trans (hbB.mono hbA.size)
          go_wp2_with fail
          refine (settle_any B K.length (some ⟨gF, 0, none⟩) F.length B K F op wB (hrowS.below hbAB) (hFat.same hbAB) (by omega) (by omega)).mono ?_
          rintro e wC ⟨vG, rfl, hG, hbC⟩
          obtain ⟨aG, cG, rfl, _, hGa⟩ := hG.form
          have hbBC : Below wr.heap.size wr wC := hbAB.trans (hbC.mono hbAB.size)
          have eK := hKat.same hbBC
          have eF := hFat.same hbBC
          have eKc := (hcKa.same hbB).same hbC
          have eFc := hcFa.same hbC
          have eB : Below B w wC := hBr.trans (hbBC.mono (by have := hBr.size; omega))
          clear hG hbC hbBC hbAB hbA hbB hcK hcF hcKa hcFa hrowM hrowM1 hrowS hKat hFat hBr hFs hlo
          go_wp2_with fail
          go_loopw [22, 113] (fun v i wr => ∃ j, j ≤ F.length ∧ i = .int .i64 (j : Nat) ∧ SRow wr wC.heap.size v (insL op K (F.take j)) ∧ Below wC.heap.size wC wr) (fun _ i _ => F.length - (intOf i).toNat)
          case atStart => exact ⟨0, Nat.zero_le _, rfl, ⟨rfl, .inl ⟨rfl, rfl⟩⟩, Below.refl _ _⟩
          case round =>
            obtain ⟨j, hj, rfl, hI, hbI⟩ := hrel
            by_cases hjlt : j < F.length
            · obtain ⟨g, hg, f0, f1⟩ := (eF.same hbI).at_ j hjlt
              cases hg
              have hbM : Below wr.heap.size wr (wr.alloc (.cells #[.int .i64 (F[j]).1, .int .i64 (F[j]).2] 53)) := (Below.refl _ _).alloc (Nat.le_refl _) _
              have m0 : (wr.alloc (.cells #[.int .i64 (F[j]).1, .int .i64 (F[j]).2] 53)).cell? ⟨wr.heap.size, 0, none⟩ = some (.int .i64 (F[j]).1) := cell_of_row _ _ 0 _ 53 (0, 0) (heap_alloc_new _ _)
              have m1 : (wr.alloc (.cells #[.int .i64 (F[j]).1, .int .i64 (F[j]).2] 53)).cell? ⟨wr.heap.size, 1, none⟩ = some (.int .i64 (F[j]).2) := cell_of_row _ _ 1 _ 53 (0, 0) (heap_alloc_new _ _)
              go_upto_region 31 with fail
              have hI2 := hI.below hbM
              have hbI2 := hbI.trans (hbM.mono hbI.size)
              clear hI hbI hbM f0 f1
              generalize wr.alloc (.cells #[.int .i64 (F[j]).1, .int .i64 (F[j]).2] 53) = wM at *
              generalize wr.heap.size = gM at *
              go_wp2_with fail
              go_loopw [25, 119] (fun v i w5 => ∃ p, p ≤ K.length ∧ i = .int .i64 (p : Nat) ∧ v = .bool true ∧ (∀ k ∈ K.take p, ov (F[j]) k = false) ∧ Below wM.heap.size wM w5) (fun _ i _ => K.length - (intOf i).toNat)
              case atStart => exact ⟨0, Nat.zero_le _, rfl, rfl, (fun k hk => by simp at hk), Below.refl _ _⟩
              case round =>
                obtain ⟨p, hp, rfl, rfl, hno, hb5⟩ := hrel
                have n0 := (hb5.cell (World.block_lt_of_cell? _ _ m0)).trans m0
                have n1 := (hb5.cell (World.block_lt_of_cell? _ _ m1)).trans m1
                have hgm : gM < wr.heap.size := World.block_lt_of_cell? _ _ n0
                have hIr := hI2.below hb5
                have hbIr := hbI2.trans (hb5.mono hbI2.size)
                clear m0 m1 hI2 hbI2
                by_cases hplt : p < K.length
                · obtain ⟨g, hg, k0, k1, k2⟩ := (eK.same hbIr).at_ p hplt
                  cases hg
                  by_cases c1 : (F[j]).1 < (K[p]).e
                  · by_cases c2 : (K[p]).s < (F[j]).2
                    · have hov : ov (F[j]) (K[p]) = true := by simp [ov, c1, c2]
                      have hA : Below wr.heap.size wr (wr.alloc (.cells #[.int .i64 (K[p]).s, .int .i64 (K[p]).e, opV (K[p]).o] 50)) := (Below.refl _ _).alloc (Nat.le_refl _) _
                      go_wp2_with fail
                      go_roundw
                      case rel => exact ⟨j + 1, by omega, by go_num, by rw [insL_skip hjlt hplt hov]; exact hIr.below hA, hbIr.trans (hA.mono hbIr.size)⟩
                      case measure => simp [intOf]; omega
                    · have hov : ov (F[j]) (K[p]) = false := by simp [ov]; omega
                      go_wp2_with fail
                      go_roundw
                      case rel => exact ⟨p + 1, by omega, by go_num, rfl, no_step hplt hno hov, hb5.alloc hb5.size _⟩
                      case measure => simp [intOf]; omega
                  · have hov : ov (F[j]) (K[p]) = false := by simp [ov]; omega
                    go_wp2_with fail
                    go_roundw
                    case rel => exact ⟨p + 1, by omega, by go_num, rfl, no_step hplt hno hov, hb5.alloc hb5.size _⟩
                    case measure => simp [intOf]; omega
                · have hput := insL_put (op := op) hjlt (fun k hk => hno k (by rw [List.take_of_length_le (by omega)]; exact hk))
                  have hle := insL_len op K (F.take j)
                  have hle2 : (F.take j).length ≤ F.length := by simp; omega
                  have hCsz := hbIr.size
                  go_wp2_with (at_builtin; refine wpList_append_own_at _ rfl (.tmp 137) (.tmp 144) 42 rfl wC.heap.size 50 i50 _ 3 32 Yba.underlying42 hi50 z50 s50 b50 rfl (by decide) _ _ _ rfl (World.ownsRow.alloc hIr _) ⟨wr.heap.size, 0, none⟩ 1 1 (spC ⟨(F[j]).1, (F[j]).2, op⟩) rfl rfl (news3 _ _) (spC_one1 _) (by unfold maxLen; omega) (by omega) (by simp; omega) ?_)
                  intro v3 w3 hr3 hg3 _ hl3
                  have hb3 : Below wC.heap.size wC w3 := (hbIr.alloc hbIr.size _).grown hg3 (by simp; omega) (fun k hk => owns_own hIr hk)
                  have hI3 : SRow w3 wC.heap.size v3 (insL op K (F.take (j + 1))) := by rw [hput]; exact snoc_any hr3
                  clear hr3 hg3 hl3
                  go_wp2_with fail
                  go_roundw
                  case rel => exact ⟨j + 1, by omega, by go_num, hI3, hb3⟩
                  case measure => simp [intOf]; omega
            · rename_i K0 h0
              obtain rfl : j = F.length := by omega
              rw [List.take_length] at hI
              have hms : mergeL K (insL op K F) = settleL op K F := merge_settle op K F 0 0 hordK hordF
              have hIl := insL_len op K F
              obtain ⟨aI, cI, rfl, _, hIa⟩ := hI.form
              have hK := fun (y0 y1 y2 y3 y4 y5 y6 y8 y9 y10 y11 y12 y14 y15 y16 y17 y20 y23 y24 y25 y26 y27 y28 y29 y30 y31 y32 y33 y34 y35 y36 y37 y38 y39 y40 y41 y42 y43 y44 y45 y46 y47 y48 y49 y50 y51 y52 y53 y54 y55 y56 y57 y58 y59 y60 y61 y62 y63 y64 y65 y66 y67 y68 y69 y70 y71 y72 y73 y74 y75 y76 y77 y78 y79 y80 y81 y82 y83 y84 y85 y86 y87 y88 y89 y90 y91 y92 y93 y94 y95 y96 y97 y98 y99 y100 y101 y102 y103 y104 y105 y106 y107 y108 y109 y110 y111 y112 y113 y114 y115 y116 y117 y118 y119 y120 y121 y122 y123 y124 y125 y126 y127 y128 y129 y130 y131 y132 y133 y134 y135 y136 y137 y138 y139 y140 y141 y142 y143 y144 y145 y146 y147 y148 y149 y150 y151 y152 y153 y154 y155 y156 y157 y158 y159 y160 y161 y162 y163 y164 y165 y166 y167 y168 y169 y170 y171 y172 y173 y174 y175 y176 y177 y178 y179 y180 y181 y182 y183 y184 y185 y186 y187 y188 y189 y190 y191 y192 y193 y194 y195 y196 y197 y198 y199 y200 y201 y202 y203 y204 y205 y206 y207 y208 y209 y210 y211 y212 y213 y214 y215 y216 y217 y218 y219 y220 y221 y222 y223 y224 y225 y226 y227 y228 y229 y230 y231 : Value) => h0 _ _ (tail41 w wr B gF cK cF cG cI aK aF aG aI K (insL op K F) (settleL op K F) F hms hB (eK.same hbI) (eF.same hbI) (eKc.same hbI) (eFc.same hbI) (hGa.same hbI) hIa (by omega) (by omega) (by omega) (eB.trans (hbI.mono (by have := eB.size; omega))) y0 y1 y2 y3 y4 y5 y6 y8 y9 y10 y11 y12 y14 y15 y16 y17 y20 y23 y24 y25 y26 y27 y28 y29 y30 y31 y32 y33 y34 y35 y36 y37 y38 y39 y40 y41 y42 y43 y44 y45 y46 y47 y48 y49 y50 y51 y52 y53 y54 y55 y56 y57 y58 y59 y60 y61 y62 y63 y64 y65 y66 y67 y68 y69 y70 y71 y72 y73 y74 y75 y76 y77 y78 y79 y80 y81 y82 y83 y84 y85 y86 y87 y88 y89 y90 y91 y92 y93 y94 y95 y96 y97 y98 y99 y100 y101 y102 y103 y104 y105 y106 y107 y108 y109 y110 y111 y112 y113 y114 y115 y116 y117 y118 y119 y120 y121 y122 y123 y124 y125 y126 y127 y128 y129 y130 y131 y132 y133 y134 y135 y136 y137 y138 y139 y140 y141 y142 y143 y144 y145 y146 y147 y148 y149 y150 y151 y152 y153 y154 y155 y156 y157 y158 y159 y160 y161 y162 y163 y164 y165 y166 y167 y168 y169 y170 y171 y172 y173 y174 y175 y176 y177 y178 y179 y180 y181 y182 y183 y184 y185 y186 y187 y188 y189 y190 y191 y192 y193 y194 y195 y196 y197 y198 y199 y200 y201 y202 y203 y204 y205 y206 y207 y208 y209 y210 y211 y212 y213 y214 y215 y216 y217 y218 y219 y220 y221 y222 y223 y224 y225 y226 y227 y228 y229 y230 y231)
              clear h0 hms
              go_wp2_with fail
              exact hK _ _ _ _ _ _ _ _ _ _ _ _ _ _ _ _ _ _ _ _ _ _ _ _ _ _ _ _ _ _ _ _ _ _ _ _ _ _ _ _ _ _ _ _ _ _ _ _ _ _ _ _ _ _ _ _ _ _ _ _ _ _ _ _ _ _ _ _ _ _ _ _ _ _ _ _ _ _ _ _ _ _ _ _ _ _ _ _ _ _ _ _ _ _ _ _ _ _ _ _ _ _ _ _ _ _ _ _ _ _ _ _ _ _ _ _ _ _ _ _ _ _ _ _ _ _ _ _ _ _ _ _ _ _ _ _ _ _ _ _ _ _ _ _ _ _ _ _ _ _ _ _ _ _ _ _ _ _ _ _ _ _ _ _ _ _ _ _ _ _ _ _ _ _ _ _ _ _ _ _ _ _ _ _ _ _ _ _ _ _ _ _ _ _ _ _ _ _ _ _ _ _ _ _ _ _ _ _ _ _ _ _ _ _ _ _ _ _ _ _ _ _ _ _ _ _

end Go.Proofs.Ybulkdicc
