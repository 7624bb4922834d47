/-
  DERIVED. The law's first loop (nodes), a theorem of its own.
-/
import Derived.Test.Qxb6608650aFmtGen
import Derived.Test.Qxb6608650aFmtEq
namespace Go.Proofs.Qxb6608650aFmt
open Go.RowKit Go.Extern.Stop Go.Stop Go.Extern

attribute [-go_sem] storeVar
attribute [local go_sem] store39

/-- the law's code; its first loop -/
noncomputable def body4 : Code := Tryf.f4.body.getD .skip
noncomputable def blk0 : Code := Cr (Cl (Cr (Cr (Cr (Cr (Cr (Cr (Cr (Cr (Cr body4))))))))))

set_option maxRecDepth 100000 in
set_option maxHeartbeats 4000000 in
theorem loop1 {c : Code} (hc : c = blk0) (F : Interp) (N1 N2 P1 P2 seed m : Nat) (w w1 wc : World) (S1 A1 R1 Q1 M1 S2 A2 R2 Q2 M2 : Nat) (hN1' : N1 ≤ 1024) (hm1 : m ≤ N1) (hm2 : m ≤ N2)
    (K1 : Hid (Snap w wc S1 A1 R1 Q1 N1 P1 M1 M1 ∧ NodesTo F N1 seed wc A1 (N1 + 1) ∧ RttTo F N1 seed wc R1 M1 ∧ PodsTo F N1 P1 seed wc Q1 P1))
    (H2 : Hid (Snap w1 wc S2 A2 R2 Q2 N2 P2 M2 M2 ∧ NodesTo F N2 seed wc A2 (N2 + 1) ∧ RttTo F N2 seed wc R2 M2 ∧ PodsTo F N2 P2 seed wc Q2 P2))
    {K : Act → World → Prop} {Q : Exit → Act → World → Prop} {u5 u6 u7 u8 u9 u10 u12 u14 u17 u18 u19 u20 u21 u22 u23 u24 u25 u26 u27 u28 u29 u30 u31 u32 u33 u34 u35 u36 u37 u38 u39 u40 u41 u42 u43 u44 u45 u46 u47 u48 u49 u50 u51 u52 u53 u54 u55 u56 u57 u58 u59 u60 u61 u62 u63 u64 u65 u66 u67 u68 u69 u70 u71 u72 u73 u74 u75 u76 u77 u78 u79 u80 u81 u82 u83 u84 u85 u86 u87 u88 u89 u90 u91 u92 u93 u94 u95 u96 u97 u98 u99 u100 u101 u102 u103 u104 u105 u106 u107 u108 u109 u110 u111 u112 u113 u114 u115 u116 u117 u118 u119 u120 u121 u122 u123 u124 u125 u126 u127 u128 u129 u130 u131 u132 u133 u134 u135 u136 u137 u138 u139 u140 u141 u142 u143 u144 u145 u146 u147 u148 u149 u150 u151 u152 u153 u154 u155 u156 u157 u158 u159 u160 u161 u162 u163 u164 u165 u166 u167 u168 u169 u170 u171 u172 u173 u174 u175 u176 u177 u178 u179 u180 u181 u182 u183 u184 u185 u186 u187 u188 u189 u190 u191 u192 u193 u194 u195 u196 u197 u198 u199 u200 u201 u202 u203 u204 u205 u206 u207 u208 u209 u210 u211 u212 u213 u214 u215 u216 u217 u218 u219 u220 u221 u222 u223 u224 u225 u226 u227 u228 u229 u230 u231 u232 u233 u234 u235 u236 u237 u238 u239 u240 u241 u242 u243 u244 u245 u246 u247 u248 u249 u250 u251 u252 u253 u254 u255 u256 u257 u258 u259 u260 u261 u262 u263 u264 u265 u266 u267 u268 u269 u270 u271 u272 u273 u274 u275 u276 u277 u278 u279 u280 u281 u282 u283 u284 u285 u286 u287 u288 u289 u290 u291 u292 u293 u294 u295 u296 u297 u298 u299 u300 u301 u302 u303 u304 u305 u306 u307 u308 u309 u310 u311 u312 u313 u314 u315 u316 u317 u318 u319 u320 u321 u322 u323 u324 u325 u326 u327 u328 u329 u330 u331 u332 u333 u334 u335 u336 u337 u338 u339 u340 u341 u342 u343 u344 u345 u346 u347 u348 u349 : Value}
    (hK : Hid (∀ (u5 u6 u7 u8 u9 u10 u12 u14 u16 u17 u18 u19 u20 u21 u22 u23 u24 u25 u26 u27 u28 u29 u30 u31 u32 u33 u34 u35 u36 u37 u38 u39 u40 u41 u42 u43 u44 u45 u46 u47 u48 u49 u50 u51 u52 u53 u54 u55 u56 u57 u58 u59 u60 u61 u62 u63 u64 u65 u66 u67 u68 u69 u70 u71 u72 u73 u74 u75 u76 u77 u78 u79 u80 u81 u82 u83 u84 u85 u86 u87 u88 u89 u90 u91 u92 u93 u94 u95 u96 u97 u98 u99 u100 u101 u102 u103 u104 u105 u106 u107 u108 u109 u110 u111 u112 u113 u114 u115 u116 u117 u118 u119 u120 u121 u122 u123 u124 u125 u126 u127 u128 u129 u130 u131 u132 u133 u134 u135 u136 u137 u138 u139 u140 u141 u142 u143 u144 u145 u146 u147 u148 u149 u150 u151 u152 u153 u154 u155 u156 u157 u158 u159 u160 u161 u162 u163 u164 u165 u166 u167 u168 u169 u170 u171 u172 u173 u174 u175 u176 u177 u178 u179 u180 u181 u182 u183 u184 u185 u186 u187 u188 u189 u190 u191 u192 u193 u194 u195 u196 u197 u198 u199 u200 u201 u202 u203 u204 u205 u206 u207 u208 u209 u210 u211 u212 u213 u214 u215 u216 u217 u218 u219 u220 u221 u222 u223 u224 u225 u226 u227 u228 u229 u230 u231 u232 u233 u234 u235 u236 u237 u238 u239 u240 u241 u242 u243 u244 u245 u246 u247 u248 u249 u250 u251 u252 u253 u254 u255 u256 u257 u258 u259 u260 u261 u262 u263 u264 u265 u266 u267 u268 u269 u270 u271 u272 u273 u274 u275 u276 u277 u278 u279 u280 u281 u282 u283 u284 u285 u286 u287 u288 u289 u290 u291 u292 u293 u294 u295 u296 u297 u298 u299 u300 u301 u302 u303 u304 u305 u306 u307 u308 u309 u310 u311 u312 u313 u314 u315 u316 u317 u318 u319 u320 u321 u322 u323 u324 u325 u326 u327 u328 u329 u330 u331 u332 u333 u334 u335 u336 u337 u338 u339 u340 u341 u342 u343 u344 u345 u346 u347 u348 u349 : Value) (w' : World), Below wc.heap.size wc w' → K ⟨#[.int .i64 N1, .int .i64 N2, .int .i64 P1, .int .i64 P2, .int .u64 seed, u5, u6, u7, u8, u9, u10, .pointer (some ⟨S1, 0, none⟩), u12, .pointer (some ⟨S2, 0, none⟩), u14, .int .i64 m, u16, u17, u18, u19, u20, u21, u22, u23, u24, u25, u26, u27, u28, u29, u30, u31, u32, u33, u34, u35, u36, u37, u38, u39, u40, u41, u42, u43, u44, u45, u46, u47, u48, u49, u50, u51, u52, u53, u54, u55, u56, u57, u58, u59, u60, u61, u62, u63, u64, u65, u66, u67, u68, u69, u70, u71, u72, u73, u74, u75, u76, u77, u78, u79, u80, u81, u82, u83, u84, u85, u86, u87, u88, u89, u90, u91, u92, u93, u94, u95, u96, u97, u98, u99, u100, u101, u102, u103, u104, u105, u106, u107, u108, u109, u110, u111, u112, u113, u114, u115, u116, u117, u118, u119, u120, u121, u122, u123, u124, u125, u126, u127, u128, u129, u130, u131, u132, u133, u134, u135, u136, u137, u138, u139, u140, u141, u142, u143, u144, u145, u146, u147, u148, u149, u150, u151, u152, u153, u154, u155, u156, u157, u158, u159, u160, u161, u162, u163, u164, u165, u166, u167, u168, u169, u170, u171, u172, u173, u174, u175, u176, u177, u178, u179, u180, u181, u182, u183, u184, u185, u186, u187, u188, u189, u190, u191, u192, u193, u194, u195, u196, u197, u198, u199, u200, u201, u202, u203, u204, u205, u206, u207, u208, u209, u210, u211, u212, u213, u214, u215, u216, u217, u218, u219, u220, u221, u222, u223, u224, u225, u226, u227, u228, u229, u230, u231, u232, u233, u234, u235, u236, u237, u238, u239, u240, u241, u242, u243, u244, u245, u246, u247, u248, u249, u250, u251, u252, u253, u254, u255, u256, u257, u258, u259, u260, u261, u262, u263, u264, u265, u266, u267, u268, u269, u270, u271, u272, u273, u274, u275, u276, u277, u278, u279, u280, u281, u282, u283, u284, u285, u286, u287, u288, u289, u290, u291, u292, u293, u294, u295, u296, u297, u298, u299, u300, u301, u302, u303, u304, u305, u306, u307, u308, u309, u310, u311, u312, u313, u314, u315, u316, u317, u318, u319, u320, u321, u322, u323, u324, u325, u326, u327, u328, u329, u330, u331, u332, u333, u334, u335, u336, u337, u338, u339, u340, u341, u342, u343, u344, u345, u346, u347, u348, u349], []⟩ w')) :
    c.wp Tryf.prog (Exit.then K Q) ⟨#[.int .i64 N1, .int .i64 N2, .int .i64 P1, .int .i64 P2, .int .u64 seed, u5, u6, u7, u8, u9, u10, .pointer (some ⟨S1, 0, none⟩), u12, .pointer (some ⟨S2, 0, none⟩), u14, .int .i64 m, .int .i64 1, u17, u18, u19, u20, u21, u22, u23, u24, u25, u26, u27, u28, u29, u30, u31, u32, u33, u34, u35, u36, u37, u38, u39, u40, u41, u42, u43, u44, u45, u46, u47, u48, u49, u50, u51, u52, u53, u54, u55, u56, u57, u58, u59, u60, u61, u62, u63, u64, u65, u66, u67, u68, u69, u70, u71, u72, u73, u74, u75, u76, u77, u78, u79, u80, u81, u82, u83, u84, u85, u86, u87, u88, u89, u90, u91, u92, u93, u94, u95, u96, u97, u98, u99, u100, u101, u102, u103, u104, u105, u106, u107, u108, u109, u110, u111, u112, u113, u114, u115, u116, u117, u118, u119, u120, u121, u122, u123, u124, u125, u126, u127, u128, u129, u130, u131, u132, u133, u134, u135, u136, u137, u138, u139, u140, u141, u142, u143, u144, u145, u146, u147, u148, u149, u150, u151, u152, u153, u154, u155, u156, u157, u158, u159, u160, u161, u162, u163, u164, u165, u166, u167, u168, u169, u170, u171, u172, u173, u174, u175, u176, u177, u178, u179, u180, u181, u182, u183, u184, u185, u186, u187, u188, u189, u190, u191, u192, u193, u194, u195, u196, u197, u198, u199, u200, u201, u202, u203, u204, u205, u206, u207, u208, u209, u210, u211, u212, u213, u214, u215, u216, u217, u218, u219, u220, u221, u222, u223, u224, u225, u226, u227, u228, u229, u230, u231, u232, u233, u234, u235, u236, u237, u238, u239, u240, u241, u242, u243, u244, u245, u246, u247, u248, u249, u250, u251, u252, u253, u254, u255, u256, u257, u258, u259, u260, u261, u262, u263, u264, u265, u266, u267, u268, u269, u270, u271, u272, u273, u274, u275, u276, u277, u278, u279, u280, u281, u282, u283, u284, u285, u286, u287, u288, u289, u290, u291, u292, u293, u294, u295, u296, u297, u298, u299, u300, u301, u302, u303, u304, u305, u306, u307, u308, u309, u310, u311, u312, u313, u314, u315, u316, u317, u318, u319, u320, u321, u322, u323, u324, u325, u326, u327, u328, u329, u330, u331, u332, u333, u334, u335, u336, u337, u338, u339, u340, u341, u342, u343, u344, u345, u346, u347, u348, u349], []⟩ wc := by
  subst hc
  simp only [blk0, body4, Tryf.f4, Option.getD, Cl, Cr]
  go_wp2_with fail
  go_loopg [16, 17] m (fun g x _ wr => ∃ i : Nat, 1 ≤ i ∧ i ≤ m + 1 ∧ m + 1 ≤ i + g ∧ x = .int .i64 i ∧ Below wc.heap.size wc wr)
  case atStart => exact ⟨1, Nat.le_refl _, by omega, by omega, rfl, Below.refl _ _⟩
  case round =>
    obtain ⟨i, hi0, hi1, hg, rfl, hb⟩ := hrel
    have HB : Hid (Below wc.heap.size wc wr) := hb
    clear hb
    by_cases hlt : i ≤ m
    · obtain ⟨x1, x2, x3, hls, hnq, hA, hA2⟩ := node_both K1.out.1 K1.out.2.1 H2.out.1 H2.out.2.1 hi0 (show i ≤ N1 by omega) (show i ≤ N2 by omega)
      have HA2 : Hid _ := hA2
      have HQ : Hid _ := hnq
      have HL : Hid _ := hls
      obtain ⟨a0, f2, f3, f4⟩ := hA wr HB.out
      clear hA hA2 hnq hls
      have tN := (Room.made wr #[.float .f64 0, .float .f64 0, .float .f64 0] 39).there 0 3 (by decide)
      go_wp2
      clear a0 f2 f3 f4 tN
      obtain ⟨wx, hwx, hbx, g0, g1, g2⟩ : ∃ wx, (wr.alloc (.cells #[.float .f64 0, .float .f64 0, .float .f64 0] 39)).setCells wr.heap.size 0 [.float .f64 x1, .float .f64 x2, .float .f64 x3] = wx ∧ Below wc.heap.size wc wx ∧ wx.cell? ⟨wr.heap.size, 0, none⟩ = some (.float .f64 x1) ∧ wx.cell? ⟨wr.heap.size, 1, none⟩ = some (.float .f64 x2) ∧ wx.cell? ⟨wr.heap.size, 2, none⟩ = some (.float .f64 x3) := ⟨_, rfl, copy39 wc wr x1 x2 x3 HB.out⟩
      rw [hwx]
      obtain ⟨B, hB⟩ : ∃ B, wr.heap.size = B := ⟨_, rfl⟩
      rw [hB] at g0 g1 g2 ⊢
      have HX : Hid (Below wc.heap.size wc wx) := hbx
      clear hbx HB hwx hB
      obtain ⟨b0, f2, f3, f4⟩ := HA2.out wx HX.out
      have hls := HL.out
      have hnq := HQ.out
      have j0 : (0 : Int) ≤ (i : Int) := by omega
      have j1 : (i : Int) < (N2 : Int) + 1 := by omega
      go_quiet (fail)
      clear g0 g1 g2 f2 f3 f4 b0 hls hnq j0 j1
      obtain ⟨wy, hwy, HY⟩ : ∃ wy, wx.drewN nq = wy ∧ Hid (Below wc.heap.size wc wy) := ⟨_, rfl, below_drewN HX.out nq⟩
      rw [hwy]
      clear hwy HX
      go_wp2
      go_roundg (m - i)
      case rel => exact ⟨i + 1, by omega, by omega, by omega, by go_num, HY.out⟩
      case measure => omega
    · obtain rfl : i = m + 1 := by omega
      go_wp2
      apply hK.out
      exact HB.out
end Go.Proofs.Qxb6608650aFmt
