/-
  DERIVED. GenerateSnapshot's loop of the round trips, a theorem of its own.
-/
import Derived.Test.Qxb6608650aFmtGenB
namespace Go.Proofs.Qxb6608650aFmt
open Go.RowKit Go.Extern.Stop Go.Stop Go.Extern

attribute [-go_sem] storeVar
attribute [local go_sem] store47 store66 store29

noncomputable def gblk3 : Code := Cr (Cl (Cr (Cr (Cr (Cr (Cr (Cr (Cr body7))))))))

set_option maxRecDepth 100000 in
set_option maxHeartbeats 4000000 in
theorem gloop2 {c : Code} (hc : c = gblk3) (F : Interp) (N P seed M : Nat) (w w9 : World) (S A R Q p2 q2 : Nat) (hN : N ≤ 1024) (HM : Hid (2 * M = (N + 1) * N))
    (n1 : S ≠ q2) (n2 : A ≠ q2) (n3 : R ≠ q2) (n4 : Q ≠ q2) (m1 : S ≠ p2) (m3 : R ≠ p2) (hWq : w.heap.size ≤ q2) (HR2 : Hid (IsRand w9 p2 q2 (rst seed 0))) (HS2 : Hid (Snap w w9 S A R Q N P M 0 ∧ NodesTo F N seed w9 A (N + 1)))
    {K : Act → World → Prop} {QQ : Exit → Act → World → Prop} {u3 u4 u5 u6 u7 u10 u11 u12 u13 u14 u15 u16 u17 u18 u19 u20 u21 u22 u23 u24 u25 u26 u27 u28 u29 u30 u31 u32 u33 u34 u35 u36 u37 u38 u39 u40 u41 u42 u43 u44 u45 u46 u47 u48 u49 u50 u51 u52 u53 u54 u55 u56 u57 u58 u59 u60 u61 u62 u63 u64 u65 u66 u67 u68 u69 u70 u71 u72 u73 u74 u75 u76 u77 u78 u79 u80 u81 u82 u83 u84 u85 u86 u87 u88 u89 u90 u91 u92 u93 u94 u95 u96 u97 u98 u99 u100 u101 u102 u105 u106 u107 u108 u109 u110 u111 u112 u113 u114 u115 u116 u117 u118 u119 u120 u121 u122 u123 u124 u125 u126 u127 u128 u129 u130 u131 u132 u133 u134 u135 u136 u137 u138 u139 u140 u141 u142 u143 u144 u145 u146 u147 u148 u149 u150 u151 u152 u153 u154 u155 u156 u157 u158 u159 u160 u161 u162 u163 u164 u165 u166 u167 u168 u169 u170 u171 u172 u173 u174 u175 u176 u177 u178 u179 u180 u181 u182 u183 u184 u185 u186 u187 u188 u189 u190 u191 u192 u193 u194 u195 u196 u197 u198 u199 u200 u201 u202 u203 u204 u205 u206 u207 u208 u209 u210 u211 u212 u213 u214 u215 : Value}
    (hK : Hid (∀ (u3 u4 u5 u6 u7 u9 u10 u11 u12 u13 u14 u15 u16 u17 u18 u19 u20 u21 u22 u23 u24 u25 u26 u27 u28 u29 u30 u31 u32 u33 u34 u35 u36 u37 u38 u39 u40 u41 u42 u43 u44 u45 u46 u47 u48 u49 u50 u51 u52 u53 u54 u55 u56 u57 u58 u59 u60 u61 u62 u63 u64 u65 u66 u67 u68 u69 u70 u71 u72 u73 u74 u75 u76 u77 u78 u79 u80 u81 u82 u83 u84 u85 u86 u87 u88 u89 u90 u91 u92 u93 u94 u95 u96 u97 u98 u99 u100 u101 u102 u103 u104 u105 u106 u107 u108 u109 u110 u111 u112 u113 u114 u115 u116 u117 u118 u119 u120 u121 u122 u123 u124 u125 u126 u127 u128 u129 u130 u131 u132 u133 u134 u135 u136 u137 u138 u139 u140 u141 u142 u143 u144 u145 u146 u147 u148 u149 u150 u151 u152 u153 u154 u155 u156 u157 u158 u159 u160 u161 u162 u163 u164 u165 u166 u167 u168 u169 u170 u171 u172 u173 u174 u175 u176 u177 u178 u179 u180 u181 u182 u183 u184 u185 u186 u187 u188 u189 u190 u191 u192 u193 u194 u195 u196 u197 u198 u199 u200 u201 u202 u203 u204 u205 u206 u207 u208 u209 u210 u211 u212 u213 u214 u215 : Value) (w' : World), Snap w w' S A R Q N P M M ∧ NodesTo F N seed w' A (N + 1) ∧ RttTo F N seed w' R M → K ⟨#[.int .i64 N, .int .i64 P, .int .u64 seed, u3, u4, u5, u6, u7, .pointer (some ⟨S, 0, none⟩), u9, u10, u11, u12, u13, u14, u15, u16, u17, u18, u19, u20, u21, u22, u23, u24, u25, u26, u27, u28, u29, u30, u31, u32, u33, u34, u35, u36, u37, u38, u39, u40, u41, u42, u43, u44, u45, u46, u47, u48, u49, u50, u51, u52, u53, u54, u55, u56, u57, u58, u59, u60, u61, u62, u63, u64, u65, u66, u67, u68, u69, u70, u71, u72, u73, u74, u75, u76, u77, u78, u79, u80, u81, u82, u83, u84, u85, u86, u87, u88, u89, u90, u91, u92, u93, u94, u95, u96, u97, u98, u99, u100, u101, u102, u103, u104, u105, u106, u107, u108, u109, u110, u111, u112, u113, u114, u115, u116, u117, u118, u119, u120, u121, u122, u123, u124, u125, u126, u127, u128, u129, u130, u131, u132, u133, u134, u135, u136, u137, u138, u139, u140, u141, u142, u143, u144, u145, u146, u147, u148, u149, u150, u151, u152, u153, u154, u155, u156, u157, u158, u159, u160, u161, u162, u163, u164, u165, u166, u167, u168, u169, u170, u171, u172, u173, u174, u175, u176, u177, u178, u179, u180, u181, u182, u183, u184, u185, u186, u187, u188, u189, u190, u191, u192, u193, u194, u195, u196, u197, u198, u199, u200, u201, u202, u203, u204, u205, u206, u207, u208, u209, u210, u211, u212, u213, u214, u215], []⟩ w')) :
    c.wp Tryf.prog (Exit.then K QQ) ⟨#[.int .i64 N, .int .i64 P, .int .u64 seed, u3, u4, u5, u6, u7, .pointer (some ⟨S, 0, none⟩), .pointer (some ⟨p2, 0, none⟩), u10, u11, u12, u13, u14, u15, u16, u17, u18, u19, u20, u21, u22, u23, u24, u25, u26, u27, u28, u29, u30, u31, u32, u33, u34, u35, u36, u37, u38, u39, u40, u41, u42, u43, u44, u45, u46, u47, u48, u49, u50, u51, u52, u53, u54, u55, u56, u57, u58, u59, u60, u61, u62, u63, u64, u65, u66, u67, u68, u69, u70, u71, u72, u73, u74, u75, u76, u77, u78, u79, u80, u81, u82, u83, u84, u85, u86, u87, u88, u89, u90, u91, u92, u93, u94, u95, u96, u97, u98, u99, u100, u101, u102, .int .i64 ((N : Int) + 1), .int .i64 0, u105, u106, u107, u108, u109, u110, u111, u112, u113, u114, u115, u116, u117, u118, u119, u120, u121, u122, u123, u124, u125, u126, u127, u128, u129, u130, u131, u132, u133, u134, u135, u136, u137, u138, u139, u140, u141, u142, u143, u144, u145, u146, u147, u148, u149, u150, u151, u152, u153, u154, u155, u156, u157, u158, u159, u160, u161, u162, u163, u164, u165, u166, u167, u168, u169, u170, u171, u172, u173, u174, u175, u176, u177, u178, u179, u180, u181, u182, u183, u184, u185, u186, u187, u188, u189, u190, u191, u192, u193, u194, u195, u196, u197, u198, u199, u200, u201, u202, u203, u204, u205, u206, u207, u208, u209, u210, u211, u212, u213, u214, u215], []⟩ w9 := by
  subst hc
  simp only [gblk3, body7, Tryf.f7, Option.getD, Cl, Cr]
  go_wp2_with fail
  go_loopg [104, 14, 15] (N + 1) (fun g x _ _ wr => ∃ a k : Nat, a ≤ N + 1 ∧ N + 1 ≤ a + g ∧ x = .int .i64 a ∧ 2 * k + a * a = 2 * (a * N) + a ∧ (a < N → pairAt N k = (a, a + 1)) ∧ IsRand wr p2 q2 (rst seed k) ∧ Snap w wr S A R Q N P M k ∧ NodesTo F N seed wr A (N + 1) ∧ RttTo F N seed wr R k)
  case atStart => exact ⟨0, 0, by omega, by omega, rfl, by omega, fun _ => rfl, HR2.out, HS2.out.1, HS2.out.2, fun _ h => absurd h (Nat.not_lt_zero _)⟩
  case round =>
    clear HR2 HS2
    obtain ⟨a, k, ha1, hga, rfl, hk, hpa, hI⟩ := hrel
    have HI : Hid (2 * k + a * a = 2 * (a * N) + a ∧ (a < N → pairAt N k = (a, a + 1)) ∧ IsRand wr p2 q2 (rst seed k) ∧ Snap w wr S A R Q N P M k ∧ NodesTo F N seed wr A (N + 1) ∧ RttTo F N seed wr R k) := ⟨hk, hpa, hI⟩
    clear hk hpa hI
    by_cases halt : a < N + 1
    · obtain ⟨wo, rfl⟩ : ∃ wo : World, wo = wr := ⟨_, rfl⟩
      obtain ⟨go, rfl⟩ : ∃ go : Nat, go = gk := ⟨_, rfl⟩
      have hAlt : decide ((a : Int) < (N : Int) + 1) = true := decide_eq_true (by omega)
      go_upto_block 5 with fail
      refine gloop3 (by kernel_rfl) F N P seed M a k w wo S A R Q p2 q2 hN halt HM n1 n2 n3 n4 m1 m3 hWq HI ?_
      unfold Hid
      intro w3 l
      intros
      rename_i hl
      have HL : Hid _ := hl
      clear hl HI
      go_wp2
      go_roundg (N - a)
      case rel =>
        obtain ⟨i1, i3, i4⟩ := HL.out
        exact ⟨a + 1, l, by omega, by omega, by go_num, pair_next i1, fun h => i3 (by omega), i4⟩
      case measure => omega
    · obtain rfl : a = N + 1 := by omega
      obtain rfl : k = M := pair_end HI.out.1 HM.out
      have HN : Hid (Snap w wr S A R Q N P k k ∧ NodesTo F N seed wr A (N + 1) ∧ RttTo F N seed wr R k) := HI.out.2.2.2
      clear HI n1 n2 n3 n4 m1 m3 hWq
      go_wp2
      apply hK.out
      exact HN.out
end Go.Proofs.Qxb6608650aFmt
