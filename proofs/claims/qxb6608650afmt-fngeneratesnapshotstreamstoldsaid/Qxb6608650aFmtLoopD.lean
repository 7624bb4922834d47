/-
  DERIVED. The law's fourth loop (pods), a theorem of its own.
-/
import Derived.Test.Qxb6608650aFmtLoopA
namespace Go.Proofs.Qxb6608650aFmt
open Go.RowKit Go.Extern.Stop Go.Stop Go.Extern

noncomputable def blk6 : Code := Cr (Cl (Cr (Cr (Cr (Cr (Cr (Cr (Cr (Cr (Cr (Cr (Cr (Cr (Cr (Cr (Cr (Cr (Cr body4))))))))))))))))))

set_option maxRecDepth 100000 in
set_option maxHeartbeats 4000000 in
theorem loop4 {c : Code} (hc : c = blk6) (F : Interp) (N1 P1 P2 seed q : Nat) (w w1 wc w0 : World) (S1 A1 R1 Q1 M1 S2 A2 R2 Q2 : Nat) (hP1' : P1 ≤ 150000) (hP2' : P2 ≤ 150000) (hq1 : q ≤ P1) (hq2 : q ≤ P2) (HB0 : Hid (Below wc.heap.size wc w0))
    (K1 : Hid (Snap w wc S1 A1 R1 Q1 N1 P1 M1 M1 ∧ NodesTo F N1 seed wc A1 (N1 + 1) ∧ RttTo F N1 seed wc R1 M1 ∧ PodsTo F N1 P1 seed wc Q1 P1))
    (H2 : Hid (Snap w1 wc S2 A2 R2 Q2 N1 P2 M1 M1 ∧ NodesTo F N1 seed wc A2 (N1 + 1) ∧ RttTo F N1 seed wc R2 M1 ∧ PodsTo F N1 P2 seed wc Q2 P2))
    {K : Act → World → Prop} {Q : Exit → Act → World → Prop} {u5 u6 u7 u8 u9 u10 u12 u14 u15 u16 u17 u18 u19 u20 u23 u24 u25 u26 u27 u28 u29 u30 u31 u32 u33 u34 u35 u36 u37 u38 u39 u40 u41 u42 u43 u44 u45 u46 u47 u48 u49 u50 u51 u52 u53 u54 u55 u56 u57 u58 u59 u60 u61 u62 u63 u64 u65 u66 u67 u68 u69 u70 u71 u72 u73 u74 u75 u76 u77 u78 u79 u80 u81 u82 u83 u84 u85 u86 u87 u88 u89 u90 u91 u92 u93 u94 u95 u96 u97 u98 u99 u100 u101 u102 u103 u104 u105 u106 u107 u108 u109 u110 u111 u112 u113 u114 u115 u116 u117 u118 u119 u120 u121 u122 u123 u124 u125 u126 u127 u128 u129 u130 u131 u132 u133 u134 u135 u136 u137 u138 u139 u140 u141 u142 u143 u144 u145 u146 u147 u148 u149 u150 u151 u152 u153 u154 u155 u156 u157 u158 u159 u160 u161 u162 u163 u164 u165 u166 u167 u168 u169 u170 u171 u172 u173 u174 u175 u176 u177 u178 u179 u180 u181 u182 u183 u184 u185 u186 u187 u188 u189 u190 u191 u192 u193 u194 u195 u196 u197 u198 u199 u200 u201 u202 u203 u204 u205 u206 u207 u208 u209 u210 u211 u212 u213 u214 u215 u216 u217 u218 u219 u220 u221 u222 u223 u224 u225 u226 u227 u228 u229 u230 u231 u232 u233 u234 u235 u236 u237 u238 u239 u240 u241 u242 u243 u244 u245 u246 u247 u248 u249 u250 u251 u252 u253 u254 u255 u256 u257 u258 u259 u260 u261 u262 u263 u264 u265 u266 u267 u268 u269 u270 u271 u272 u273 u274 u275 u276 u277 u278 u279 u280 u281 u282 u283 u284 u285 u286 u287 u288 u289 u290 u291 u292 u293 u294 u295 u296 u297 u298 u299 u300 u301 u302 u303 u304 u305 u306 u307 u308 u309 u310 u311 u312 u313 u314 u315 u316 u317 u318 u319 u320 u321 u322 u323 u324 u325 u326 u327 u328 u329 u330 u331 u332 u333 u334 u335 u336 u337 u338 u339 u340 u341 u342 u343 u344 u345 u346 u347 u348 u349 : Value}
    (hK : Hid (∀ (u5 u6 u7 u8 u9 u10 u12 u14 u15 u16 u17 u18 u19 u20 u22 u23 u24 u25 u26 u27 u28 u29 u30 u31 u32 u33 u34 u35 u36 u37 u38 u39 u40 u41 u42 u43 u44 u45 u46 u47 u48 u49 u50 u51 u52 u53 u54 u55 u56 u57 u58 u59 u60 u61 u62 u63 u64 u65 u66 u67 u68 u69 u70 u71 u72 u73 u74 u75 u76 u77 u78 u79 u80 u81 u82 u83 u84 u85 u86 u87 u88 u89 u90 u91 u92 u93 u94 u95 u96 u97 u98 u99 u100 u101 u102 u103 u104 u105 u106 u107 u108 u109 u110 u111 u112 u113 u114 u115 u116 u117 u118 u119 u120 u121 u122 u123 u124 u125 u126 u127 u128 u129 u130 u131 u132 u133 u134 u135 u136 u137 u138 u139 u140 u141 u142 u143 u144 u145 u146 u147 u148 u149 u150 u151 u152 u153 u154 u155 u156 u157 u158 u159 u160 u161 u162 u163 u164 u165 u166 u167 u168 u169 u170 u171 u172 u173 u174 u175 u176 u177 u178 u179 u180 u181 u182 u183 u184 u185 u186 u187 u188 u189 u190 u191 u192 u193 u194 u195 u196 u197 u198 u199 u200 u201 u202 u203 u204 u205 u206 u207 u208 u209 u210 u211 u212 u213 u214 u215 u216 u217 u218 u219 u220 u221 u222 u223 u224 u225 u226 u227 u228 u229 u230 u231 u232 u233 u234 u235 u236 u237 u238 u239 u240 u241 u242 u243 u244 u245 u246 u247 u248 u249 u250 u251 u252 u253 u254 u255 u256 u257 u258 u259 u260 u261 u262 u263 u264 u265 u266 u267 u268 u269 u270 u271 u272 u273 u274 u275 u276 u277 u278 u279 u280 u281 u282 u283 u284 u285 u286 u287 u288 u289 u290 u291 u292 u293 u294 u295 u296 u297 u298 u299 u300 u301 u302 u303 u304 u305 u306 u307 u308 u309 u310 u311 u312 u313 u314 u315 u316 u317 u318 u319 u320 u321 u322 u323 u324 u325 u326 u327 u328 u329 u330 u331 u332 u333 u334 u335 u336 u337 u338 u339 u340 u341 u342 u343 u344 u345 u346 u347 u348 u349 : Value) (w' : World), Below wc.heap.size wc w' → K ⟨#[.int .i64 N1, .int .i64 N1, .int .i64 P1, .int .i64 P2, .int .u64 seed, u5, u6, u7, u8, u9, u10, .pointer (some ⟨S1, 0, none⟩), u12, .pointer (some ⟨S2, 0, none⟩), u14, u15, u16, u17, u18, u19, u20, .int .i64 q, u22, u23, u24, u25, u26, u27, u28, u29, u30, u31, u32, u33, u34, u35, u36, u37, u38, u39, u40, u41, u42, u43, u44, u45, u46, u47, u48, u49, u50, u51, u52, u53, u54, u55, u56, u57, u58, u59, u60, u61, u62, u63, u64, u65, u66, u67, u68, u69, u70, u71, u72, u73, u74, u75, u76, u77, u78, u79, u80, u81, u82, u83, u84, u85, u86, u87, u88, u89, u90, u91, u92, u93, u94, u95, u96, u97, u98, u99, u100, u101, u102, u103, u104, u105, u106, u107, u108, u109, u110, u111, u112, u113, u114, u115, u116, u117, u118, u119, u120, u121, u122, u123, u124, u125, u126, u127, u128, u129, u130, u131, u132, u133, u134, u135, u136, u137, u138, u139, u140, u141, u142, u143, u144, u145, u146, u147, u148, u149, u150, u151, u152, u153, u154, u155, u156, u157, u158, u159, u160, u161, u162, u163, u164, u165, u166, u167, u168, u169, u170, u171, u172, u173, u174, u175, u176, u177, u178, u179, u180, u181, u182, u183, u184, u185, u186, u187, u188, u189, u190, u191, u192, u193, u194, u195, u196, u197, u198, u199, u200, u201, u202, u203, u204, u205, u206, u207, u208, u209, u210, u211, u212, u213, u214, u215, u216, u217, u218, u219, u220, u221, u222, u223, u224, u225, u226, u227, u228, u229, u230, u231, u232, u233, u234, u235, u236, u237, u238, u239, u240, u241, u242, u243, u244, u245, u246, u247, u248, u249, u250, u251, u252, u253, u254, u255, u256, u257, u258, u259, u260, u261, u262, u263, u264, u265, u266, u267, u268, u269, u270, u271, u272, u273, u274, u275, u276, u277, u278, u279, u280, u281, u282, u283, u284, u285, u286, u287, u288, u289, u290, u291, u292, u293, u294, u295, u296, u297, u298, u299, u300, u301, u302, u303, u304, u305, u306, u307, u308, u309, u310, u311, u312, u313, u314, u315, u316, u317, u318, u319, u320, u321, u322, u323, u324, u325, u326, u327, u328, u329, u330, u331, u332, u333, u334, u335, u336, u337, u338, u339, u340, u341, u342, u343, u344, u345, u346, u347, u348, u349], []⟩ w')) :
    c.wp Tryf.prog (Exit.then K Q) ⟨#[.int .i64 N1, .int .i64 N1, .int .i64 P1, .int .i64 P2, .int .u64 seed, u5, u6, u7, u8, u9, u10, .pointer (some ⟨S1, 0, none⟩), u12, .pointer (some ⟨S2, 0, none⟩), u14, u15, u16, u17, u18, u19, u20, .int .i64 q, .int .i64 0, u23, u24, u25, u26, u27, u28, u29, u30, u31, u32, u33, u34, u35, u36, u37, u38, u39, u40, u41, u42, u43, u44, u45, u46, u47, u48, u49, u50, u51, u52, u53, u54, u55, u56, u57, u58, u59, u60, u61, u62, u63, u64, u65, u66, u67, u68, u69, u70, u71, u72, u73, u74, u75, u76, u77, u78, u79, u80, u81, u82, u83, u84, u85, u86, u87, u88, u89, u90, u91, u92, u93, u94, u95, u96, u97, u98, u99, u100, u101, u102, u103, u104, u105, u106, u107, u108, u109, u110, u111, u112, u113, u114, u115, u116, u117, u118, u119, u120, u121, u122, u123, u124, u125, u126, u127, u128, u129, u130, u131, u132, u133, u134, u135, u136, u137, u138, u139, u140, u141, u142, u143, u144, u145, u146, u147, u148, u149, u150, u151, u152, u153, u154, u155, u156, u157, u158, u159, u160, u161, u162, u163, u164, u165, u166, u167, u168, u169, u170, u171, u172, u173, u174, u175, u176, u177, u178, u179, u180, u181, u182, u183, u184, u185, u186, u187, u188, u189, u190, u191, u192, u193, u194, u195, u196, u197, u198, u199, u200, u201, u202, u203, u204, u205, u206, u207, u208, u209, u210, u211, u212, u213, u214, u215, u216, u217, u218, u219, u220, u221, u222, u223, u224, u225, u226, u227, u228, u229, u230, u231, u232, u233, u234, u235, u236, u237, u238, u239, u240, u241, u242, u243, u244, u245, u246, u247, u248, u249, u250, u251, u252, u253, u254, u255, u256, u257, u258, u259, u260, u261, u262, u263, u264, u265, u266, u267, u268, u269, u270, u271, u272, u273, u274, u275, u276, u277, u278, u279, u280, u281, u282, u283, u284, u285, u286, u287, u288, u289, u290, u291, u292, u293, u294, u295, u296, u297, u298, u299, u300, u301, u302, u303, u304, u305, u306, u307, u308, u309, u310, u311, u312, u313, u314, u315, u316, u317, u318, u319, u320, u321, u322, u323, u324, u325, u326, u327, u328, u329, u330, u331, u332, u333, u334, u335, u336, u337, u338, u339, u340, u341, u342, u343, u344, u345, u346, u347, u348, u349], []⟩ w0 := by
  subst hc
  simp only [blk6, body4, Tryf.f4, Option.getD, Cl, Cr]
  go_wp2_with fail
  go_loopg [22, 23, 24] q (fun g x _ _ wr => ∃ l : Nat, l ≤ q ∧ q ≤ l + g ∧ x = .int .i64 l ∧ Below wc.heap.size wc wr)
  case atStart => exact ⟨0, by omega, by omega, rfl, HB0.out⟩
  case round =>
    clear HB0
    obtain ⟨l, hl2, hg6, rfl, hb⟩ := hrel
    have HB : Hid (Below wc.heap.size wc wr) := hb
    clear hb
    by_cases hlt4 : l < q
    · obtain ⟨en, nm1, nm2, im1, im2, x1, x2, x3, x4, x5, x6, x7, hnm, hn39, hn56, ⟨o5, o6, o7⟩, hr1, hr2⟩ := pod_both K1.out.1 K1.out.2.2.2 H2.out.1 H2.out.2.2.2 (show l < P1 by omega) (show l < P2 by omega)
      have HNM : Hid _ := hnm
      have HR1 : Hid _ := hr1
      have HR2 : Hid _ := hr2
      obtain ⟨a5, f0, f2, f3, f4, f5, f10, f11, f12, f13, f16, f17⟩ := hr1 wr HB.out
      obtain ⟨b5, e0, e2, e3, e4, e5, e10, e11, e12, e13, e16, e17⟩ := hr2 wr HB.out
      clear hr1 hr2 hnm
      have j0 : (0 : Int) ≤ (l : Int) := by omega
      have j1 : (l : Int) < (P1 : Int) := by omega
      have j2 : (l : Int) < (P2 : Int) := by omega
      go_wp2
      simp only [List.append_eq, List.cons_append, List.nil_append]
      go_quiet (fail)
      clear a5 f0 f2 f3 f4 f5 f10 f11 f12 f13 f16 f17 b5 e0 e2 e3 e4 e5 e10 e11 e12 e13 e16 e17 hn39 hn56 o5 o6 o7 j0 j1 j2
      obtain ⟨wy, hwy, HY⟩ : ∃ wy, wr.drewN nq = wy ∧ Hid (Below wc.heap.size wc wy) := ⟨_, rfl, below_drewN HB.out nq⟩
      rw [hwy]
      clear hwy
      obtain ⟨a5, f0, f2, f3, f4, f5, f10, f11, f12, f13, f16, f17⟩ := HR1.out wy HY.out
      obtain ⟨b5, e0, e2, e3, e4, e5, e10, e11, e12, e13, e16, e17⟩ := HR2.out wy HY.out
      clear a5 f2 f3 f4 f5 f10 f11 f13 f16 f17 b5 e2 e3 e4 e5 e10 e11 e13 e16 e17 HR1 HR2
      by_cases hpp : P1 = P2
      · obtain ⟨rfl, rfl⟩ := HNM.out hpp
        subst hpp
        clear HNM
        go_wp2
        go_quiet (fail)
        clear f0 f12 e0 e12
        obtain ⟨wz, hwz, HZ⟩ : ∃ wz, wy.drewN nq = wz ∧ Hid (Below wc.heap.size wc wz) := ⟨_, rfl, below_drewN HY.out nq⟩
        rw [hwz]
        clear hwz
        go_wp2
        go_roundg (q - l - 1)
        case rel => exact ⟨l + 1, by omega, by omega, by go_num, HZ.out⟩
        case measure => omega
      · have hpp' : decide ((P1 : Int) = (P2 : Int)) = false := decide_eq_false (by omega)
        have hpp2 : ((P1 : Int) == (P2 : Int)) = false := beq_eq_false_iff_ne.2 (by omega)
        clear HNM
        go_wp2
        go_quiet (fail)
        clear f0 f12 e0 e12
        obtain ⟨wz, hwz, HZ⟩ : ∃ wz, wy.drewN nq = wz ∧ Hid (Below wc.heap.size wc wz) := ⟨_, rfl, below_drewN HY.out nq⟩
        rw [hwz]
        clear hwz
        go_wp2
        go_roundg (q - l - 1)
        case rel => exact ⟨l + 1, by omega, by omega, by go_num, HZ.out⟩
        case measure => omega
    · obtain rfl : l = q := by omega
      go_wp2
      apply hK.out
      exact HB.out
end Go.Proofs.Qxb6608650aFmt
