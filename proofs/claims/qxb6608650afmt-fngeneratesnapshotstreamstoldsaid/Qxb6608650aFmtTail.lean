/-
  DERIVED. What the law does behind its first loop where the numbers of nodes agree, a theorem of its own.
-/
import Derived.Test.Qxb6608650aFmtLoopB
import Derived.Test.Qxb6608650aFmtLoopC
import Derived.Test.Qxb6608650aFmtLoopD
import Derived.Deep.CutBlock
namespace Go.Proofs.Qxb6608650aFmt
open Go.RowKit Go.Extern.Stop Go.Stop Go.Extern

noncomputable def rest1 : Code := Cr (Cr (Cr (Cr (Cr (Cr (Cr (Cr (Cr (Cr body4)))))))))

set_option maxRecDepth 100000 in
set_option maxHeartbeats 4000000 in
theorem tail1 {c : Code} (hc : c = rest1) (F : Interp) (N1 P1 P2 seed : Nat) (w w1 wc w3 : World) (S1 A1 R1 Q1 M1 S2 A2 R2 Q2 : Nat) (hN1' : N1 ≤ 1024) (hP1' : P1 ≤ 150000) (hP2' : P2 ≤ 150000) (HM1 : Hid (2 * M1 = (N1 + 1) * N1)) (HB : Hid (Below wc.heap.size wc w3))
    (K1 : Hid (Snap w wc S1 A1 R1 Q1 N1 P1 M1 M1 ∧ NodesTo F N1 seed wc A1 (N1 + 1) ∧ RttTo F N1 seed wc R1 M1 ∧ PodsTo F N1 P1 seed wc Q1 P1))
    (H2 : Hid (Snap w1 wc S2 A2 R2 Q2 N1 P2 M1 M1 ∧ NodesTo F N1 seed wc A2 (N1 + 1) ∧ RttTo F N1 seed wc R2 M1 ∧ PodsTo F N1 P2 seed wc Q2 P2))
    {R : Ending → World → Prop} {QQ : Exit → Act → World → Prop} (hQQ : QQ = bodyPost Tryf.prog Tryf.f4 R) {u5 u6 u7 u8 u9 u10 u12 u14 u15 u16 u17 u18 u19 u20 u21 u22 u23 u24 u25 u26 u27 u28 u29 u30 u31 u32 u33 u34 u35 u36 u37 u38 u39 u40 u41 u42 u43 u44 u45 u46 u47 u48 u49 u50 u51 u52 u53 u54 u55 u56 u57 u58 u59 u60 u61 u62 u63 u64 u65 u66 u67 u68 u69 u70 u71 u72 u73 u74 u75 u76 u77 u78 u79 u80 u81 u82 u83 u84 u85 u86 u87 u88 u89 u90 u91 u92 u93 u94 u95 u96 u97 u98 u99 u100 u101 u102 u103 u104 u105 u106 u107 u108 u109 u110 u111 u112 u113 u114 u115 u116 u117 u118 u119 u120 u121 u122 u123 u124 u125 u126 u127 u128 u129 u130 u131 u132 u133 u134 u135 u136 u137 u138 u139 u140 u141 u142 u143 u144 u145 u146 u147 u148 u149 u150 u151 u152 u153 u154 u155 u156 u157 u158 u159 u160 u161 u162 u163 u164 u165 u166 u167 u168 u169 u170 u171 u172 u173 u174 u175 u176 u177 u178 u179 u180 u181 u182 u183 u184 u185 u186 u187 u188 u189 u190 u191 u192 u193 u194 u195 u196 u197 u198 u199 u200 u201 u202 u203 u204 u205 u206 u207 u208 u209 u210 u211 u212 u213 u214 u215 u216 u217 u218 u219 u220 u221 u222 u223 u224 u225 u226 u227 u228 u229 u230 u231 u232 u233 u234 u235 u236 u237 u238 u239 u240 u241 u242 u243 u244 u245 u246 u247 u248 u249 u250 u251 u252 u253 u254 u255 u256 u257 u258 u259 u260 u261 u262 u263 u264 u265 u266 u267 u268 u269 u270 u271 u272 u273 u274 u275 u276 u277 u278 u279 u280 u281 u282 u283 u284 u285 u286 u287 u288 u289 u290 u291 u292 u293 u294 u295 u296 u297 u298 u299 u300 u301 u302 u303 u304 u305 u306 u307 u308 u309 u310 u311 u312 u313 u314 u315 u316 u317 u318 u319 u320 u321 u322 u323 u324 u325 u326 u327 u328 u329 u330 u331 u332 u333 u334 u335 u336 u337 u338 u339 u340 u341 u342 u343 u344 u345 u346 u347 u348 u349 : Value}
    (hR : Hid (∀ w' : World, Below wc.heap.size wc w' → R (.returned (.bool true)) w')) :
    c.wp Tryf.prog QQ ⟨#[.int .i64 N1, .int .i64 N1, .int .i64 P1, .int .i64 P2, .int .u64 seed, u5, u6, u7, u8, u9, u10, .pointer (some ⟨S1, 0, none⟩), u12, .pointer (some ⟨S2, 0, none⟩), u14, u15, u16, u17, u18, u19, u20, u21, u22, u23, u24, u25, u26, u27, u28, u29, u30, u31, u32, u33, u34, u35, u36, u37, u38, u39, u40, u41, u42, u43, u44, u45, u46, u47, u48, u49, u50, u51, u52, u53, u54, u55, u56, u57, u58, u59, u60, u61, u62, u63, u64, u65, u66, u67, u68, u69, u70, u71, u72, u73, u74, u75, u76, u77, u78, u79, u80, u81, u82, u83, u84, u85, u86, u87, u88, u89, u90, u91, u92, u93, u94, u95, u96, u97, u98, u99, u100, u101, u102, u103, u104, u105, u106, u107, u108, u109, u110, u111, u112, u113, u114, u115, u116, u117, u118, u119, u120, u121, u122, u123, u124, u125, u126, u127, u128, u129, u130, u131, u132, u133, u134, u135, u136, u137, u138, u139, u140, u141, u142, u143, u144, u145, u146, u147, u148, u149, u150, u151, u152, u153, u154, u155, u156, u157, u158, u159, u160, u161, u162, u163, u164, u165, u166, u167, u168, u169, u170, u171, u172, u173, u174, u175, u176, u177, u178, u179, u180, u181, u182, u183, u184, u185, u186, u187, u188, u189, u190, u191, u192, u193, u194, u195, u196, u197, u198, u199, u200, u201, u202, u203, u204, u205, u206, u207, u208, u209, u210, u211, u212, u213, u214, u215, u216, u217, u218, u219, u220, u221, u222, u223, u224, u225, u226, u227, u228, u229, u230, u231, u232, u233, u234, u235, u236, u237, u238, u239, u240, u241, u242, u243, u244, u245, u246, u247, u248, u249, u250, u251, u252, u253, u254, u255, u256, u257, u258, u259, u260, u261, u262, u263, u264, u265, u266, u267, u268, u269, u270, u271, u272, u273, u274, u275, u276, u277, u278, u279, u280, u281, u282, u283, u284, u285, u286, u287, u288, u289, u290, u291, u292, u293, u294, u295, u296, u297, u298, u299, u300, u301, u302, u303, u304, u305, u306, u307, u308, u309, u310, u311, u312, u313, u314, u315, u316, u317, u318, u319, u320, u321, u322, u323, u324, u325, u326, u327, u328, u329, u330, u331, u332, u333, u334, u335, u336, u337, u338, u339, u340, u341, u342, u343, u344, u345, u346, u347, u348, u349], []⟩ w3 := by
  subst hc
  simp only [rest1, body4, Tryf.f4, Option.getD, Cr]
  subst hQQ
  obtain ⟨K, hK⟩ : ∃ K, K = (N1 + 1) * N1 := ⟨_, rfl⟩
  have hp : (N1 : Int) * ((N1 : Int) + 1) = (K : Int) := by rw [hK, Int.natCast_mul, Int.mul_comm]; rfl
  have hK1 : K ≤ 1049600 := by rw [hK]; exact Nat.mul_le_mul (show N1 + 1 ≤ 1025 by omega) hN1'
  have hKM : 2 * M1 = K := by rw [hK]; exact HM1.out
  have hq : (K : Int).tdiv 2 = (M1 : Int) := by
    rw [← hKM, Int.natCast_mul]
    exact Int.mul_tdiv_cancel_left _ (by decide)
  have hM1 : M1 ≤ 1048576 := by omega
  clear hK
  have a1 := (HB.out.cell (p := ⟨S1, 1, none⟩) K1.out.1.lt).trans K1.out.1.c1
  have b1 := (HB.out.cell (p := ⟨S2, 1, none⟩) H2.out.1.lt).trans H2.out.1.c1
  go_upto_block 2 with fail
  clear a1 b1 hp hq
  refine loop2 (by kernel_rfl) F N1 P1 P2 seed w w1 wc w3 S1 A1 R1 Q1 M1 S2 A2 R2 Q2 hM1 HB K1 H2 ?_
  unfold Hid
  intros
  rename_i w4 hb4
  clear HB
  have HB : Hid (Below wc.heap.size wc w4) := hb4
  clear hb4
  go_upto_block 4 with fail
  refine loop3 (by kernel_rfl) F N1 P1 P2 seed w w1 wc w4 S1 A1 R1 Q1 M1 S2 A2 R2 Q2 hN1' HB K1 H2 ?_
  unfold Hid
  intros
  rename_i w5 hb5
  clear HB
  have HB : Hid (Below wc.heap.size wc w5) := hb5
  clear hb5
  obtain ⟨wb, rfl⟩ : ∃ wb : World, wb = wc := ⟨_, rfl⟩
  go_upto_if 238 with fail
  go_cut [21] (fun x w6 => w6 = w5 ∧ ∃ q : Nat, x = .int .i64 q ∧ q ≤ P1 ∧ q ≤ P2)
  case first =>
    go_wp2_with fail
    all_goals
      go_meet
      case rel => exact ⟨rfl, _, rfl, by omega, by omega⟩
  case rest =>
    obtain ⟨rfl, q, rfl, hq1, hq2⟩ := hcut
    go_upto_block 6 with fail
    refine loop4 (by kernel_rfl) F N1 P1 P2 seed q w w1 wb wc S1 A1 R1 Q1 M1 S2 A2 R2 Q2 hP1' hP2' hq1 hq2 HB K1 H2 ?_
    unfold Hid
    intros
    rename_i w7 hb7
    clear HB
    have HB : Hid (Below wb.heap.size wb w7) := hb7
    clear hb7
    go_wp2
    exact hR.out _ HB.out
end Go.Proofs.Qxb6608650aFmt
