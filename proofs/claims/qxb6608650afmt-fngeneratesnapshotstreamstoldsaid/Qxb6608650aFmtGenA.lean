/-
  DERIVED. GenerateSnapshot's first loop (nodes), a theorem of its own.
-/
import Derived.Test.Qxb6608650aFmtStep
import Derived.Deep.RegionHeld3
import Derived.Deep.MidRow
import Derived.Deep.DeepCutAuto
import Derived.Deep.CutBlock
import Derived.BigRegion
namespace Go.Proofs.Qxb6608650aFmt
open Go.RowKit Go.Extern.Stop Go.Stop Go.Extern

attribute [-go_sem] storeVar
attribute [local go_sem] store47 store66 store29

/-- the halves of a sequence; a block's body; a loop's body; GenerateSnapshot's code -/
def Cl : Code → Code | .seq x _ => x | c => c
def Cr : Code → Code | .seq _ y => y | c => c
def Cb : Code → Code | .block _ x => x | c => c
def Co : Code → Code | .loop x => x | c => c
noncomputable def body7 : Code := Tryf.f7.body.getD .skip
noncomputable def gblk1 : Code := Cr (Cl (Cr (Cr (Cr (Cr (Cr body7))))))

set_option maxRecDepth 100000 in
set_option maxHeartbeats 4000000 in
theorem gloop1 {c : Code} (hc : c = gblk1) (F : Interp) (N P seed M : Nat) (w w2 : World) (S A R Q p q : Nat) (hN0 : 1 ≤ N) (hN : N ≤ 1024) (HF : Hid (F.answers w.tape)) (HT : Hid (Tab w))
    (n1 : S ≠ q) (n2 : A ≠ q) (n3 : R ≠ q) (n4 : Q ≠ q) (m2 : A ≠ p) (hWq : w.heap.size ≤ q) (HR2 : Hid (IsRand w2 p q (nst seed 0))) (HS2 : Hid (Snap w w2 S A R Q N P M 0 ∧ NodesTo F N seed w2 A 1))
    {K : Act → World → Prop} {QQ : Exit → Act → World → Prop} {u3 u4 u5 u6 u7 u11 u12 u13 u14 u15 u16 u17 u18 u19 u20 u21 u22 u23 u24 u25 u26 u27 u28 u29 u30 u31 u32 u33 u34 u35 u36 u37 u38 u39 u40 u41 u42 u43 u44 u45 u46 u47 u48 u49 u50 u51 u52 u53 u54 u55 u56 u57 u58 u59 u60 u61 u62 u63 u64 u65 u66 u67 u68 u69 u70 u71 u72 u73 u74 u75 u76 u77 u78 u79 u80 u81 u82 u83 u84 u85 u86 u87 u88 u89 u90 u91 u92 u93 u94 u95 u96 u97 u98 u99 u100 u101 u102 u103 u104 u105 u106 u107 u108 u109 u110 u111 u112 u113 u114 u115 u116 u117 u118 u119 u120 u121 u122 u123 u124 u125 u126 u127 u128 u129 u130 u131 u132 u133 u134 u135 u136 u137 u138 u139 u140 u141 u142 u143 u144 u145 u146 u147 u148 u149 u150 u151 u152 u153 u154 u155 u156 u157 u158 u159 u160 u161 u162 u163 u164 u165 u166 u167 u168 u169 u170 u171 u172 u173 u174 u175 u176 u177 u178 u179 u180 u181 u182 u183 u184 u185 u186 u187 u188 u189 u190 u191 u192 u193 u194 u195 u196 u197 u198 u199 u200 u201 u202 u203 u204 u205 u206 u207 u208 u209 u210 u211 u212 u213 u214 u215 : Value}
    (hK : Hid (∀ (u3 u4 u5 u6 u7 u9 u10 u11 u12 u13 u14 u15 u16 u17 u18 u19 u20 u21 u22 u23 u24 u25 u26 u27 u28 u29 u30 u31 u32 u33 u34 u35 u36 u37 u38 u39 u40 u41 u42 u43 u44 u45 u46 u47 u48 u49 u50 u51 u52 u53 u54 u55 u56 u57 u58 u59 u60 u61 u62 u63 u64 u65 u66 u67 u68 u69 u70 u71 u72 u73 u74 u75 u76 u77 u78 u79 u80 u81 u82 u83 u84 u85 u86 u87 u88 u89 u90 u91 u92 u93 u94 u95 u96 u97 u98 u99 u100 u101 u102 u103 u104 u105 u106 u107 u108 u109 u110 u111 u112 u113 u114 u115 u116 u117 u118 u119 u120 u121 u122 u123 u124 u125 u126 u127 u128 u129 u130 u131 u132 u133 u134 u135 u136 u137 u138 u139 u140 u141 u142 u143 u144 u145 u146 u147 u148 u149 u150 u151 u152 u153 u154 u155 u156 u157 u158 u159 u160 u161 u162 u163 u164 u165 u166 u167 u168 u169 u170 u171 u172 u173 u174 u175 u176 u177 u178 u179 u180 u181 u182 u183 u184 u185 u186 u187 u188 u189 u190 u191 u192 u193 u194 u195 u196 u197 u198 u199 u200 u201 u202 u203 u204 u205 u206 u207 u208 u209 u210 u211 u212 u213 u214 u215 : Value) (w' : World), Snap w w' S A R Q N P M 0 ∧ NodesTo F N seed w' A (N + 1) → K ⟨#[.int .i64 N, .int .i64 P, .int .u64 seed, u3, u4, u5, u6, u7, .pointer (some ⟨S, 0, none⟩), u9, u10, u11, u12, u13, u14, u15, u16, u17, u18, u19, u20, u21, u22, u23, u24, u25, u26, u27, u28, u29, u30, u31, u32, u33, u34, u35, u36, u37, u38, u39, u40, u41, u42, u43, u44, u45, u46, u47, u48, u49, u50, u51, u52, u53, u54, u55, u56, u57, u58, u59, u60, u61, u62, u63, u64, u65, u66, u67, u68, u69, u70, u71, u72, u73, u74, u75, u76, u77, u78, u79, u80, u81, u82, u83, u84, u85, u86, u87, u88, u89, u90, u91, u92, u93, u94, u95, u96, u97, u98, u99, u100, u101, u102, u103, u104, u105, u106, u107, u108, u109, u110, u111, u112, u113, u114, u115, u116, u117, u118, u119, u120, u121, u122, u123, u124, u125, u126, u127, u128, u129, u130, u131, u132, u133, u134, u135, u136, u137, u138, u139, u140, u141, u142, u143, u144, u145, u146, u147, u148, u149, u150, u151, u152, u153, u154, u155, u156, u157, u158, u159, u160, u161, u162, u163, u164, u165, u166, u167, u168, u169, u170, u171, u172, u173, u174, u175, u176, u177, u178, u179, u180, u181, u182, u183, u184, u185, u186, u187, u188, u189, u190, u191, u192, u193, u194, u195, u196, u197, u198, u199, u200, u201, u202, u203, u204, u205, u206, u207, u208, u209, u210, u211, u212, u213, u214, u215], []⟩ w')) :
    c.wp Tryf.prog (Exit.then K QQ) ⟨#[.int .i64 N, .int .i64 P, .int .u64 seed, u3, u4, u5, u6, u7, .pointer (some ⟨S, 0, none⟩), .pointer (some ⟨p, 0, none⟩), .int .i64 1, u11, u12, u13, u14, u15, u16, u17, u18, u19, u20, u21, u22, u23, u24, u25, u26, u27, u28, u29, u30, u31, u32, u33, u34, u35, u36, u37, u38, u39, u40, u41, u42, u43, u44, u45, u46, u47, u48, u49, u50, u51, u52, u53, u54, u55, u56, u57, u58, u59, u60, u61, u62, u63, u64, u65, u66, u67, u68, u69, u70, u71, u72, u73, u74, u75, u76, u77, u78, u79, u80, u81, u82, u83, u84, u85, u86, u87, u88, u89, u90, u91, u92, u93, u94, u95, u96, u97, u98, u99, u100, u101, u102, u103, u104, u105, u106, u107, u108, u109, u110, u111, u112, u113, u114, u115, u116, u117, u118, u119, u120, u121, u122, u123, u124, u125, u126, u127, u128, u129, u130, u131, u132, u133, u134, u135, u136, u137, u138, u139, u140, u141, u142, u143, u144, u145, u146, u147, u148, u149, u150, u151, u152, u153, u154, u155, u156, u157, u158, u159, u160, u161, u162, u163, u164, u165, u166, u167, u168, u169, u170, u171, u172, u173, u174, u175, u176, u177, u178, u179, u180, u181, u182, u183, u184, u185, u186, u187, u188, u189, u190, u191, u192, u193, u194, u195, u196, u197, u198, u199, u200, u201, u202, u203, u204, u205, u206, u207, u208, u209, u210, u211, u212, u213, u214, u215], []⟩ w2 := by
  subst hc
  simp only [gblk1, body7, Tryf.f7, Option.getD, Cl, Cr]
  go_wp2_with fail
  go_loopg [10, 11, 12, 13] N (fun g x _ _ _ wr => ∃ i : Nat, 1 ≤ i ∧ i ≤ N + 1 ∧ N + 1 ≤ i + g ∧ x = .int .i64 i ∧ IsRand wr p q (nst seed (i - 1)) ∧ Snap w wr S A R Q N P M 0 ∧ NodesTo F N seed wr A i)
  case atStart => exact ⟨1, Nat.le_refl _, by omega, by omega, rfl, HR2.out, HS2.out.1, HS2.out.2⟩
  case round =>
    clear HR2 HS2
    obtain ⟨i, hi0, hi1, hg, rfl, hR, hSn, hNd⟩ := hrel
    have HI : Hid (IsRand wr p q (nst seed (i - 1)) ∧ Snap w wr S A R Q N P M 0 ∧ NodesTo F N seed wr A i) := ⟨hR, hSn, hNd⟩
    clear hR hSn hNd
    by_cases hlt : i ≤ N
    · go_wp2_with fail
      refine (uniform_any p q (nst seed (i - 1)) 1000 8000 _ (by decide) (by decide) HI.out.1).mono ?_
      rintro e w3 ⟨rfl, h5, h6⟩
      have H3 : Hid (IsRand w3 p q (uniS 1000 8000 (nst seed (i - 1))) ∧ Only q wr w3) := ⟨h5, h6⟩
      clear h5 h6
      go_wp2_with fail
      refine (uniform_any p q _ 1024 16384 _ (by decide) (by decide) H3.out.1).mono ?_
      rintro e w4 ⟨rfl, h5, h6⟩
      have H4 : Hid (IsRand w4 p q (uniS 1024 16384 (uniS 1000 8000 (nst seed (i - 1)))) ∧ Only q wr w4) := ⟨h5, H3.out.2.trans h6⟩
      clear h5 h6 H3
      go_wp2_with fail
      refine (uniform_any p q _ 10 1000 _ (by decide) (by decide) H4.out.1).mono ?_
      rintro e w5 ⟨rfl, h5, h6⟩
      have H5 : Hid (IsRand w5 p q (nst seed (i - 1 + 1)) ∧ Only q wr w5) := ⟨h5, H4.out.2.trans h6⟩
      clear h5 h6 H4
      have HS5 : Hid (Snap w w5 S A R Q N P M 0 ∧ NodesTo F N seed w5 A i) := ⟨HI.out.2.1.only H5.out.2 hWq n1 n2 n3 n4, HI.out.2.2.kept (H5.out.2.rest A n2 HI.out.2.1.rA.1)⟩
      have c0 := HS5.out.1.c0
      have tA := HS5.out.1.rA.there (i * 22) 22 (by omega)
      have hAl := HS5.out.1.rA.1
      have hSA := HS5.out.1.ne.1
      have hTab : Hid (Tab w5.drew ∧ F.answers w5.drew.tape) := ⟨HT.out.below (HS5.out.1.bel.drew), by rw [HS5.out.1.bel.drew.tape]; exact HF.out⟩
      have hinfo : (Tryf.prog.info? 47).map (·.size) = some 22 := by kernel_rfl
      have j0 : (0 : Int) ≤ (i : Int) := by omega
      have j1 : (i : Int) < (N : Int) + 1 := by omega
      have hd5 : w5.drew.cell? ⟨S, 0, none⟩ = some (.slice (some ⟨A, 0, none⟩) (N + 1) (N + 1)) ∧ w5.drew.there A (i * 22) 22 := ⟨c0, tA⟩
      have hAl5 : A < w5.drew.heap.size := hAl
      clear hinfo
      go_wp2
      go_region_held3 (fun w' => w'.cell? ⟨S, 0, none⟩ = some (.slice (some ⟨A, 0, none⟩) (N + 1) (N + 1)) ∧ w'.there A (i * 22) 22) (first
          | (with_reducible refine held_set (w := w6) _ (by assumption) hSA)
          | (with_reducible exact held_below (w' := w6) hb6 hd5 hAl5)
          | (with_reducible exact hd5))
        (first
          | (go_at_call 21; refine (numbered_any F ⟨#[110]⟩ i N _ hTab.out.2 hTab.out.1 (by omega)).mono ?_; rintro e w6 ⟨rfl, hb6⟩))
      have H6 : Hid (IsRand w6 p q (nst seed (i - 1 + 1)) ∧ Snap w w6 S A R Q N P M 0 ∧ NodesTo F N seed w6 A i) :=
        ⟨(H5.out.1.kept (w' := w5.drew) (Nat.le_refl _) rfl rfl).below hb6, (HS5.out.1.kept (w' := w5.drew) HS5.out.1.bel.drew (Nat.le_refl _) rfl rfl rfl rfl).below hb6, (HS5.out.2.kept (w' := w5.drew) rfl).kept (hb6.block A hAl5)⟩
      generalize hvs : [Value.string (numText F ⟨#[110]⟩ i N), .bool true, .float .f64 (floatOfInt .f64 ((uniN 1000 8000 (nst seed (i - 1)) : Nat) : Int)), .float .f64 (floatOfInt .f64 ((uniN 1024 16384 (uniS 1000 8000 (nst seed (i - 1))) : Nat) : Int)), .float .f64 (floatOfInt .f64 ((uniN 10 1000 (uniS 1024 16384 (uniS 1000 8000 (nst seed (i - 1)))) : Nat) : Int)), .float .f64 0, .float .f64 0, .float .f64 0, .float .f64 0, .float .f64 0, .float .f64 0, .float .f64 0, .float .f64 0, .int .i64 0, .int .i64 0, .slice none 0 0, .slice none 0 0, .slice none 0 0, .string ⟨#[]⟩, .string ⟨#[]⟩, .map none, .slice none 0 0] = vs
      have H7 : Hid (IsRand (w6.setCells A (i * 22) vs) p q (nst seed (i - 1 + 1)) ∧ Snap w (w6.setCells A (i * 22) vs) S A R Q N P M 0 ∧ NodesTo F N seed (w6.setCells A (i * 22) vs) A (i + 1)) :=
        ⟨H6.out.1.set A _ vs m2 n2, H6.out.2.1.set A (Or.inl rfl) _ vs, H6.out.2.2.succ hi0 vs (by rw [← hvs]; rfl) (H6.out.2.1.rA.there _ _ (by omega)) (by rw [← hvs]; rfl) (by rw [← hvs]; rfl)
          (by rw [← hvs]; exact fl_some _) (by rw [← hvs]; exact fl_some _) (by rw [← hvs]; exact fl_some _)⟩
      generalize w6.setCells A (i * 22) vs = w7 at H7
      clear H6 hvs hb6 hTab hd5 hAl5 c0 tA hAl hSA HS5 H5 HI
      go_wp2
      go_roundg (N - i)
      case rel =>
        refine ⟨i + 1, by omega, by omega, by omega, by go_num, ?_, H7.out.2.1, H7.out.2.2⟩
        rw [show i + 1 - 1 = i - 1 + 1 by omega]
        exact H7.out.1
      case measure => omega
    · obtain rfl : i = N + 1 := by omega
      have HN : Hid (Snap w wr S A R Q N P M 0 ∧ NodesTo F N seed wr A (N + 1)) := HI.out.2
      clear HI n1 n2 n3 n4 m2 hWq
      go_wp2
      apply hK.out
      exact HN.out
end Go.Proofs.Qxb6608650aFmt
