import Derived.Test.YbulkdiccMerge
namespace Go.Proofs.Ybulkdicc
open Go.RowKit
set_option linter.unusedVariables false
attribute [local go_sem ↓] exec_neq50 wp_neq50 exec_neq53 wp_neq53 Go.wp_at_zero Go.wp_at_succ

def startsR (n : Nat) : Code → Bool
  | .region m _ _ => m == n
  | .seq a _ => startsR n a
  | _ => false
/-- The code from a region on. -/
def fromS (n : Nat) : Code → Option Code
  | .seq a b => if startsR n a then some (.seq a b) else match fromS n a with
    | some c => some c
    | none => fromS n b
  | .block _ c => fromS n c
  | .scope c => fromS n c
  | _ => none
noncomputable def C49 : Code := ((Yba.f5.body.bind (fromS 49)).getD .skip)

set_option maxHeartbeats 20000000 in
set_option maxRecDepth 1000000 in
theorem tail49 (w w9 : World) (B gF cK cF cG cW : Nat) (aK aF aG aW : Option Addr) (K L : List (Sp Int)) (F : List (Nat × Nat)) (hB : w.heap.size = B) (fK : SAt w9 (some ⟨B, 0, none⟩) K) (fF : MAt w9 (some ⟨gF, 0, none⟩) F) (fKc : SAt w9 aK K) (fFc : MAt w9 aF F) (fG : SAt w9 aG L) (fW : SAt w9 aW L) (hKn : K.length ≤ 4096) (hFn : F.length ≤ 4096) (hLn : L.length ≤ 8192) (fB : Below B w w9)
    (y0 y1 y2 y3 y4 y5 y6 y8 y9 y10 y11 y12 y14 y15 y16 y17 y20 y22 y23 y24 y25 y26 y27 y29 y30 y31 y32 y33 y34 y35 y36 y37 y38 y39 y40 y41 y42 y43 y44 y45 y46 y47 y48 y49 y50 y51 y52 y53 y54 y55 y56 y57 y58 y59 y60 y61 y62 y63 y64 y65 y66 y67 y68 y69 y70 y71 y72 y73 y74 y75 y76 y77 y78 y79 y80 y81 y82 y83 y84 y85 y86 y87 y88 y89 y90 y91 y92 y93 y94 y95 y96 y97 y98 y99 y100 y101 y102 y103 y104 y105 y106 y107 y108 y109 y110 y111 y112 y113 y114 y115 y116 y117 y118 y119 y120 y121 y122 y123 y124 y125 y126 y127 y128 y129 y130 y131 y132 y133 y134 y135 y136 y137 y138 y139 y140 y141 y142 y143 y144 y145 y146 y147 y148 y149 y150 y151 y152 y153 y154 y155 y156 y157 y158 y159 y160 y161 y162 y163 y164 y165 y166 y167 y168 y169 y170 y171 y172 y173 y174 y175 y176 y177 y178 y179 y180 y181 y182 y183 y184 y185 y186 y187 y188 y189 y190 y191 y192 y193 y194 y195 y196 y197 y198 y199 y200 y201 y202 y203 y204 y205 y206 y207 y208 y209 y210 y211 y212 y213 y214 y215 y216 y217 y218 y219 y220 y221 y222 y223 y224 y225 y226 y227 y228 y229 y230 y231 : Value) :
    Code.wp Yba.prog C49 (bodyPost Yba.prog Yba.f5 fun e w' => e = .returned (.bool true) ∧ Below w.heap.size w w') ⟨#[y0, y1, y2, y3, y4, y5, y6, .slice (some ⟨B, 0, none⟩) K.length K.length, y8, y9, y10, y11, y12, .slice (some ⟨gF, 0, none⟩) F.length F.length, y14, y15, y16, y17, .slice aK K.length cK, .slice aF F.length cF, y20, .slice aG L.length cG, y22, y23, y24, y25, y26, y27, .slice aW L.length cW, y29, y30, y31, y32, y33, y34, y35, y36, y37, y38, y39, y40, y41, y42, y43, y44, y45, y46, y47, y48, y49, y50, y51, y52, y53, y54, y55, y56, y57, y58, y59, y60, y61, y62, y63, y64, y65, y66, y67, y68, y69, y70, y71, y72, y73, y74, y75, y76, y77, y78, y79, y80, y81, y82, y83, y84, y85, y86, y87, y88, y89, y90, y91, y92, y93, y94, y95, y96, y97, y98, y99, y100, y101, y102, y103, y104, y105, y106, y107, y108, y109, y110, y111, y112, y113, y114, y115, y116, y117, y118, y119, y120, y121, y122, y123, y124, y125, y126, y127, y128, y129, y130, y131, y132, y133, y134, y135, y136, y137, y138, y139, y140, y141, y142, y143, y144, y145, y146, y147, y148, y149, y150, y151, y152, y153, y154, y155, y156, y157, y158, y159, y160, y161, y162, y163, y164, y165, y166, y167, y168, y169, y170, y171, y172, y173, y174, y175, y176, y177, y178, y179, y180, y181, y182, y183, y184, y185, y186, y187, y188, y189, y190, y191, y192, y193, y194, y195, y196, y197, y198, y199, y200, y201, y202, y203, y204, y205, y206, y207, y208, y209, y210, y211, y212, y213, y214, y215, y216, y217, y218, y219, y220, y221, y222, y223, y224, y225, y226, y227, y228, y229, y230, y231], []⟩ w9 := by
  show (let Q' := bodyPost Yba.prog Yba.f5 fun e w' => e = .returned (.bool true) ∧ Below w.heap.size w w'; Code.wp Yba.prog C49 Q' _ w9)
  intro Q'
  conv => arg 2; whnf
  have hne : ((L.length : Int) != (L.length : Int)) = false := by simp
  go_wp2_with fail
  go_loopw [211] (fun i w6 => ∃ x : Nat, x ≤ L.length ∧ i = .int .i64 x ∧ Below w9.heap.size w9 w6) (fun i _ => L.length - (intOf i).toNat)
  case atStart => exact ⟨0, Nat.zero_le _, rfl, Below.refl _ _⟩
  case round =>
    obtain ⟨x, hx, rfl, hbr⟩ := hrel
    by_cases hlt : x < L.length
    · obtain ⟨ga, rfl, a0, a1, a2⟩ := (fG.same hbr).at_ x hlt
      obtain ⟨gb, rfl, b0, b1, b2⟩ := (fW.same hbr).at_ x hlt
      have hq : eqS (.agg #[.int .i64 (L[x]).s, .int .i64 (L[x]).e, opV (L[x]).o]) (.agg #[.int .i64 (L[x]).s, .int .i64 (L[x]).e, opV (L[x]).o]) := ⟨rfl, _, rfl⟩
      generalize (L[x]).s = s at *
      generalize (L[x]).e = e at *
      generalize (L[x]).o = o at *
      go_upto_region 54 with fail
      go_region
      go_wp2_with fail
      go_roundw
      case rel => exact ⟨x + 1, by omega, by go_num, below_drew hbr⟩
      case measure => simp [intOf]; omega
    · go_wp2_with fail
      refine (equal_spans (some ⟨B, 0, none⟩) aK K.length cK K _ (fK.same hbr) (fKc.same hbr) (by omega)).mono ?_
      rintro e wY ⟨rfl, hbY⟩
      have hb2 : Below w9.heap.size w9 wY := hbr.trans (hbY.mono hbr.size)
      go_wp2_with fail
      refine (equal_matches (some ⟨gF, 0, none⟩) aF F.length cF F _ (fF.same hb2) (fFc.same hb2) (by omega)).mono ?_
      rintro e wZ ⟨rfl, hbZ⟩
      have hb3 : Below w9.heap.size w9 wZ := hb2.trans (hbZ.mono hb2.size)
      go_wp2_with fail
      go_ret
      exact ⟨rfl, by rw [hB]; exact fB.trans (hb3.mono (by have := fB.size; omega))⟩

end Go.Proofs.Ybulkdicc
