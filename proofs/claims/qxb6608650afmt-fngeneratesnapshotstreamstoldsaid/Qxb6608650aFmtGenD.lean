/-
  DERIVED. GenerateSnapshot's fourth loop (pods), a theorem of its own.
-/
import Derived.Test.Qxb6608650aFmtGenA
namespace Go.Proofs.Qxb6608650aFmt
open Go.RowKit Go.Extern.Stop Go.Stop Go.Extern

attribute [-go_sem] storeVar
attribute [local go_sem] store47 store66 store29

noncomputable def gblk7 : Code := Cr (Cl (Cr (Cr (Cr (Cr (Cr (Cr (Cr (Cr (Cr body7))))))))))

set_option maxRecDepth 100000 in
set_option maxHeartbeats 4000000 in
theorem gloop4 {c : Code} (hc : c = gblk7) (F : Interp) (N P seed k : Nat) (w w11 : World) (S A R Q p3 q3 : Nat) (hN0 : 1 ≤ N) (hN : N ≤ 1024) (hP : P ≤ 150000) (HF : Hid (F.answers w.tape)) (HT : Hid (Tab w))
    (n1 : S ≠ q3) (n2 : A ≠ q3) (n3 : R ≠ q3) (n4 : Q ≠ q3) (m4 : Q ≠ p3) (hWq : w.heap.size ≤ q3) (HR2 : Hid (IsRand w11 p3 q3 (pst seed N 0))) (HS2 : Hid (Snap w w11 S A R Q N P k k ∧ NodesTo F N seed w11 A (N + 1) ∧ RttTo F N seed w11 R k))
    {K : Act → World → Prop} {QQ : Exit → Act → World → Prop} {u3 u4 u5 u6 u7 u10 u11 u12 u13 u14 u15 u16 u17 u18 u19 u20 u21 u22 u23 u24 u25 u26 u27 u28 u29 u30 u31 u32 u33 u34 u35 u36 u37 u38 u39 u40 u41 u42 u43 u44 u45 u46 u47 u48 u49 u50 u51 u52 u53 u54 u55 u56 u57 u58 u59 u60 u61 u62 u63 u64 u65 u66 u67 u68 u69 u70 u71 u72 u73 u74 u75 u76 u77 u78 u79 u80 u81 u82 u83 u84 u85 u86 u87 u88 u89 u90 u91 u92 u93 u94 u95 u96 u97 u98 u99 u100 u101 u102 u103 u104 u105 u106 u107 u108 u109 u110 u111 u112 u113 u114 u115 u116 u117 u118 u119 u120 u121 u122 u123 u124 u125 u126 u127 u128 u129 u130 u131 u132 u133 u134 u135 u136 u137 u138 u139 u140 u141 u142 u143 u144 u145 u146 u147 u148 u149 u150 u151 u152 u155 u156 u157 u158 u159 u160 u161 u162 u163 u164 u165 u166 u167 u168 u169 u170 u171 u172 u173 u174 u175 u176 u177 u178 u179 u180 u181 u182 u183 u184 u185 u186 u187 u188 u189 u190 u191 u192 u193 u194 u195 u196 u197 u198 u199 u200 u201 u202 u203 u204 u205 u206 u207 u208 u209 u210 u211 u212 u213 u214 u215 : Value}
    (hK : Hid (∀ (u3 u4 u5 u6 u7 u9 u10 u11 u12 u13 u14 u15 u16 u17 u18 u19 u20 u21 u22 u23 u24 u25 u26 u27 u28 u29 u30 u31 u32 u33 u34 u35 u36 u37 u38 u39 u40 u41 u42 u43 u44 u45 u46 u47 u48 u49 u50 u51 u52 u53 u54 u55 u56 u57 u58 u59 u60 u61 u62 u63 u64 u65 u66 u67 u68 u69 u70 u71 u72 u73 u74 u75 u76 u77 u78 u79 u80 u81 u82 u83 u84 u85 u86 u87 u88 u89 u90 u91 u92 u93 u94 u95 u96 u97 u98 u99 u100 u101 u102 u103 u104 u105 u106 u107 u108 u109 u110 u111 u112 u113 u114 u115 u116 u117 u118 u119 u120 u121 u122 u123 u124 u125 u126 u127 u128 u129 u130 u131 u132 u133 u134 u135 u136 u137 u138 u139 u140 u141 u142 u143 u144 u145 u146 u147 u148 u149 u150 u151 u152 u153 u154 u155 u156 u157 u158 u159 u160 u161 u162 u163 u164 u165 u166 u167 u168 u169 u170 u171 u172 u173 u174 u175 u176 u177 u178 u179 u180 u181 u182 u183 u184 u185 u186 u187 u188 u189 u190 u191 u192 u193 u194 u195 u196 u197 u198 u199 u200 u201 u202 u203 u204 u205 u206 u207 u208 u209 u210 u211 u212 u213 u214 u215 : Value) (w' : World), Snap w w' S A R Q N P k k ∧ NodesTo F N seed w' A (N + 1) ∧ RttTo F N seed w' R k ∧ PodsTo F N P seed w' Q P → K ⟨#[.int .i64 N, .int .i64 P, .int .u64 seed, u3, u4, u5, u6, u7, .pointer (some ⟨S, 0, none⟩), u9, u10, u11, u12, u13, u14, u15, u16, u17, u18, u19, u20, u21, u22, u23, u24, u25, u26, u27, u28, u29, u30, u31, u32, u33, u34, u35, u36, u37, u38, u39, u40, u41, u42, u43, u44, u45, u46, u47, u48, u49, u50, u51, u52, u53, u54, u55, u56, u57, u58, u59, u60, u61, u62, u63, u64, u65, u66, u67, u68, u69, u70, u71, u72, u73, u74, u75, u76, u77, u78, u79, u80, u81, u82, u83, u84, u85, u86, u87, u88, u89, u90, u91, u92, u93, u94, u95, u96, u97, u98, u99, u100, u101, u102, u103, u104, u105, u106, u107, u108, u109, u110, u111, u112, u113, u114, u115, u116, u117, u118, u119, u120, u121, u122, u123, u124, u125, u126, u127, u128, u129, u130, u131, u132, u133, u134, u135, u136, u137, u138, u139, u140, u141, u142, u143, u144, u145, u146, u147, u148, u149, u150, u151, u152, u153, u154, u155, u156, u157, u158, u159, u160, u161, u162, u163, u164, u165, u166, u167, u168, u169, u170, u171, u172, u173, u174, u175, u176, u177, u178, u179, u180, u181, u182, u183, u184, u185, u186, u187, u188, u189, u190, u191, u192, u193, u194, u195, u196, u197, u198, u199, u200, u201, u202, u203, u204, u205, u206, u207, u208, u209, u210, u211, u212, u213, u214, u215], []⟩ w')) :
    c.wp Tryf.prog (Exit.then K QQ) ⟨#[.int .i64 N, .int .i64 P, .int .u64 seed, u3, u4, u5, u6, u7, .pointer (some ⟨S, 0, none⟩), .pointer (some ⟨p3, 0, none⟩), u10, u11, u12, u13, u14, u15, u16, u17, u18, u19, u20, u21, u22, u23, u24, u25, u26, u27, u28, u29, u30, u31, u32, u33, u34, u35, u36, u37, u38, u39, u40, u41, u42, u43, u44, u45, u46, u47, u48, u49, u50, u51, u52, u53, u54, u55, u56, u57, u58, u59, u60, u61, u62, u63, u64, u65, u66, u67, u68, u69, u70, u71, u72, u73, u74, u75, u76, u77, u78, u79, u80, u81, u82, u83, u84, u85, u86, u87, u88, u89, u90, u91, u92, u93, u94, u95, u96, u97, u98, u99, u100, u101, u102, u103, u104, u105, u106, u107, u108, u109, u110, u111, u112, u113, u114, u115, u116, u117, u118, u119, u120, u121, u122, u123, u124, u125, u126, u127, u128, u129, u130, u131, u132, u133, u134, u135, u136, u137, u138, u139, u140, u141, u142, u143, u144, u145, u146, u147, u148, u149, u150, u151, u152, .int .i64 P, .int .i64 0, u155, u156, u157, u158, u159, u160, u161, u162, u163, u164, u165, u166, u167, u168, u169, u170, u171, u172, u173, u174, u175, u176, u177, u178, u179, u180, u181, u182, u183, u184, u185, u186, u187, u188, u189, u190, u191, u192, u193, u194, u195, u196, u197, u198, u199, u200, u201, u202, u203, u204, u205, u206, u207, u208, u209, u210, u211, u212, u213, u214, u215], []⟩ w11 := by
  subst hc
  simp only [gblk7, body7, Tryf.f7, Option.getD, Cl, Cr]
  go_wp2_with fail
  go_loopg [154, 16, 17, 18, 19, 20, 21, 22, 23] P (fun g x _ _ _ _ _ _ _ _ wr => ∃ i : Nat, i ≤ P ∧ P ≤ i + g ∧ x = .int .i64 i ∧ IsRand wr p3 q3 (pst seed N i) ∧ Snap w wr S A R Q N P k k ∧ NodesTo F N seed wr A (N + 1) ∧ RttTo F N seed wr R k ∧ PodsTo F N P seed wr Q i)
  case atStart => exact ⟨0, by omega, by omega, rfl, HR2.out, HS2.out.1, HS2.out.2.1, HS2.out.2.2, fun _ h => absurd h (Nat.not_lt_zero _)⟩
  case round =>
    clear HR2 HS2
    obtain ⟨i, hi1, hg, rfl, hI⟩ := hrel
    have HI : Hid (IsRand wr p3 q3 (pst seed N i) ∧ Snap w wr S A R Q N P k k ∧ NodesTo F N seed wr A (N + 1) ∧ RttTo F N seed wr R k ∧ PodsTo F N P seed wr Q i) := hI
    clear hI
    by_cases hlt : i < P
    · generalize hs0 : pst seed N i = s0 at HI
      go_wp2_with fail
      refine (uniform_any p3 q3 s0 100 1000 _ (by decide) (by decide) HI.out.1).mono ?_
      rintro e v1 ⟨rfl, h5, h6⟩
      have H1 : Hid (IsRand v1 p3 q3 (pt1 s0) ∧ Only q3 wr v1) := ⟨h5, h6⟩
      clear h5 h6
      go_wp2_with fail
      refine (uniform_any p3 q3 _ 128 2048 _ (by decide) (by decide) H1.out.1).mono ?_
      rintro e v2 ⟨rfl, h5, h6⟩
      have H2 : Hid (IsRand v2 p3 q3 (pt2 s0) ∧ Only q3 wr v2) := ⟨h5, H1.out.2.trans h6⟩
      clear h5 h6 H1
      go_wp2_with fail
      refine (uniform_any p3 q3 _ 1 20 _ (by decide) (by decide) H2.out.1).mono ?_
      rintro e v3 ⟨rfl, h5, h6⟩
      have H3 : Hid (IsRand v3 p3 q3 (pt3 s0) ∧ Only q3 wr v3) := ⟨h5, H2.out.2.trans h6⟩
      clear h5 h6 H2
      go_wp2_with fail
      refine (hundredths_any p3 q3 _ 1000 50000 _ (by decide) (by decide) H3.out.1).mono ?_
      rintro e v4 ⟨rfl, h5, h6⟩
      have H4 : Hid (IsRand v4 p3 q3 (pt4 s0) ∧ Only q3 wr v4) := ⟨h5, H3.out.2.trans h6⟩
      clear h5 h6 H3
      go_wp2_with fail
      refine (hundredths_any p3 q3 _ 1 1000 _ (by decide) (by decide) H4.out.1).mono ?_
      rintro e v5 ⟨rfl, h5, h6⟩
      have H5 : Hid (IsRand v5 p3 q3 (pt5 s0) ∧ Only q3 wr v5) := ⟨h5, H4.out.2.trans h6⟩
      clear h5 h6 H4
      go_wp2_with fail
      refine (hundredths_any p3 q3 _ 0 5000 _ (by decide) (by decide) H5.out.1).mono ?_
      rintro e v6 ⟨rfl, h5, h6⟩
      have H6 : Hid (IsRand v6 p3 q3 (pt6 s0) ∧ Only q3 wr v6) := ⟨h5, H5.out.2.trans h6⟩
      clear h5 h6 H5
      have hdb := (draw_bounds (N + 1) (by omega) (by omega) (pt6 s0)).1
      generalize hen : (draw (N + 1) (pt6 s0)).1 = en at hdb
      have HS6 : Hid (Snap w v6 S A R Q N P k k ∧ NodesTo F N seed v6 A (N + 1) ∧ RttTo F N seed v6 R k ∧ PodsTo F N P seed v6 Q i) :=
        ⟨HI.out.2.1.only H6.out.2 hWq n1 n2 n3 n4, HI.out.2.2.1.kept (H6.out.2.rest A n2 HI.out.2.1.rA.1), HI.out.2.2.2.1.kept (H6.out.2.rest R n3 HI.out.2.1.rR.1), HI.out.2.2.2.2.kept (H6.out.2.rest Q n4 HI.out.2.1.rQ.1)⟩
      have hd6 : v6.drew.cell? ⟨S, 0, none⟩ = some (.slice (some ⟨A, 0, none⟩) (N + 1) (N + 1)) ∧ v6.drew.cell? ⟨A, en * 22, none⟩ = some (.string (nName F N en)) := ⟨HS6.out.1.c0, (HS6.out.2.1 en (by omega)).1⟩
      have rd : Hid (IsRand v6.drew p3 q3 (pt6 s0)) := H6.out.1.kept (Nat.le_refl _) rfl rfl
      have j0 : (0 : Int) ≤ (en : Int) := by omega
      have j1 : (en : Int) < (N : Int) + 1 := by omega
      go_wp2
      go_region_held3 (fun w' => w'.cell? ⟨S, 0, none⟩ = some (.slice (some ⟨A, 0, none⟩) (N + 1) (N + 1)) ∧ w'.cell? ⟨A, en * 22, none⟩ = some (.string (nName F N en))) (first
          | (with_reducible exact duo_only (w' := v7) hO7.out hd6 n1 n2)
          | (with_reducible exact hd6))
        (first
          | (go_at_call 23; refine (intn_any p3 q3 (pt6 s0) (N + 1) _ (by omega) (by omega) rd.out).mono ?_; rw [hen]; rintro e v7 ⟨rfl, h5, h6⟩; have hO7 : Hid (Only q3 v6.drew v7) := h6; have hR7 : Hid (IsRand v7 p3 q3 (draw (N + 1) (pt6 s0)).2) := h5; clear h5 h6))
      have HS6d : Snap w v6.drew S A R Q N P k k := HS6.out.1.kept HS6.out.1.bel.drew (Nat.le_refl _) rfl rfl rfl rfl
      have HS7 : Hid (IsRand v7 p3 q3 (draw (N + 1) (pt6 s0)).2 ∧ Snap w v7 S A R Q N P k k ∧ NodesTo F N seed v7 A (N + 1) ∧ RttTo F N seed v7 R k ∧ PodsTo F N P seed v7 Q i) :=
        ⟨hR7.out, HS6d.only hO7.out hWq n1 n2 n3 n4, (HS6.out.2.1.kept (w' := v6.drew) rfl).kept (hO7.out.rest A n2 HS6d.rA.1), (HS6.out.2.2.1.kept (w' := v6.drew) rfl).kept (hO7.out.rest R n3 HS6d.rR.1), (HS6.out.2.2.2.kept (w' := v6.drew) rfl).kept (hO7.out.rest Q n4 HS6d.rQ.1)⟩
      clear HS6d hO7 hR7 HS6 H6 HI rd hd6 j0 j1
      have hd7 : v7.drew.cell? ⟨S, 5, none⟩ = some (.slice (some ⟨Q, 0, none⟩) P P) ∧ v7.drew.there Q (i * 23) 23 := ⟨HS7.out.2.1.c5, HS7.out.2.1.rQ.there _ _ (by omega)⟩
      have hTab : Hid (Tab v7.drew ∧ F.answers v7.drew.tape) := ⟨HT.out.below (HS7.out.2.1.bel.drew), by rw [HS7.out.2.1.bel.drew.tape]; exact HF.out⟩
      have hSQ := HS7.out.2.1.ne.2.2.1
      have num : ∀ (pre : ByteArray) (u : World), F.answers u.tape → Tab u → Calls Tryf.prog 21 #[.string pre, .int .i64 (IntKind.i64.wrap ((i : Int) + 1)), .int .i64 (P : Int)] u fun e u' => e = .returned (.string (numText F pre (i + 1) P)) ∧ Below u.heap.size u u' := fun pre u h1 h2 => by rw [show IntKind.i64.wrap ((i : Int) + 1) = ((i + 1 : Nat) : Int) by rw [IntKind.wrap_i64]; omega]; exact numbered_any F pre (i + 1) P u h1 h2 (by omega)
      have hmul : ∀ u : World, (binOp .mul 37 (.float .f64 4611686018427387904) (.float .f64 (floatOfInt .f64 ((uniN 100 1000 s0 : Nat) : Int)))).run Tryf.prog u = .ok (.float .f64 (dbl (uniN 100 1000 s0))) u := fun u => by rw [fl_spell]; exact run_float_arith u .mul 37 .f64 _ _ _ (dbl_eq _)
      have j0 : (0 : Int) ≤ (i : Int) := by omega
      have j1 : (i : Int) < (P : Int) := by omega
      go_wp2
      refine wp_region_noPanic ?_
      refine wp_region_held_drew (S := fun w' => w'.cell? ⟨S, 5, none⟩ = some (.slice (some ⟨Q, 0, none⟩) P P) ∧ w'.there Q (i * 23) 23) (by kernel_rfl) hd7 (fun hHeld => ?_)
      refine wpAnyH_take (i := 0) (oi := { dst := some 186, op := Op.move (Operand.tmp 8), type := 23, pos := "gen.go:357", after := _, guard := none }) (v := ?v501) rfl (by kernel_rfl) (by kernel_rfl) (by kernel_rfl) (fun _ _ _ h => h) (Or.inl ⟨by rfl, ?hy501⟩) (by assumption) ?rest501
      case hy501 => (intro w hSw; (try dsimp only at hSw); go_simp <;> with_reducible rfl)
      try simp only [Act.put, List.setIfInBounds_toArray, List.set_cons_zero, List.set_cons_succ]
      refine wpAnyH_take (i := 1) (oi := { dst := some 187, op := Op.nilCheck (Operand.tmp 186), type := 0, pos := "gen.go:357", after := _, guard := none }) (v := ?v502) rfl (by kernel_rfl) (by kernel_rfl) (by kernel_rfl) (fun _ _ _ h => h) (Or.inl ⟨by rfl, ?hy502⟩) (by assumption) ?rest502
      case hy502 => (intro w hSw; (try dsimp only at hSw); go_simp <;> with_reducible rfl)
      try simp only [Act.put, List.setIfInBounds_toArray, List.set_cons_zero, List.set_cons_succ]
      refine wpAnyH_take (i := 2) (oi := { dst := some 188, op := Op.fieldAddr 35 (Operand.tmp 187) 5, type := 0, pos := "gen.go:357", after := _, guard := none }) (v := ?v503) rfl (by kernel_rfl) (by kernel_rfl) (by kernel_rfl) (fun _ _ _ h => h) (Or.inl ⟨by rfl, ?hy503⟩) (by assumption) ?rest503
      case hy503 => (intro w hSw; (try dsimp only at hSw); go_simp <;> with_reducible rfl)
      try simp only [Act.put, List.setIfInBounds_toArray, List.set_cons_zero, List.set_cons_succ]
      refine wpAnyH_take (i := 3) (oi := { dst := some 189, op := Op.load 31 (Operand.tmp 188), type := 31, pos := "gen.go:357", after := _, guard := none }) (v := ?v504) rfl (by kernel_rfl) (by kernel_rfl) (by kernel_rfl) (fun _ _ _ h => h) (Or.inl ⟨by rfl, ?hy504⟩) (by assumption) ?rest504
      case hy504 => (intro w hSw; (try dsimp only at hSw); go_simp <;> with_reducible rfl)
      try simp only [Act.put, List.setIfInBounds_toArray, List.set_cons_zero, List.set_cons_succ]
      refine wpAnyH_take (i := 4) (oi := { dst := some 190, op := Op.move (Operand.tmp 16), type := 3, pos := "gen.go:357", after := _, guard := none }) (v := ?v505) rfl (by kernel_rfl) (by kernel_rfl) (by kernel_rfl) (fun _ _ _ h => h) (Or.inl ⟨by rfl, ?hy505⟩) (by assumption) ?rest505
      case hy505 => (intro w hSw; (try dsimp only at hSw); go_simp <;> with_reducible rfl)
      try simp only [Act.put, List.setIfInBounds_toArray, List.set_cons_zero, List.set_cons_succ]
      refine wpAnyH_take (i := 5) (oi := { dst := some 191, op := Op.move (Operand.tmp 16), type := 3, pos := "gen.go:357", after := _, guard := none }) (v := ?v506) rfl (by kernel_rfl) (by kernel_rfl) (by kernel_rfl) (fun _ _ _ h => h) (Or.inl ⟨by rfl, ?hy506⟩) (by assumption) ?rest506
      case hy506 => (intro w hSw; (try dsimp only at hSw); go_simp <;> with_reducible rfl)
      try simp only [Act.put, List.setIfInBounds_toArray, List.set_cons_zero, List.set_cons_succ]
      refine wpAnyH_take (i := 6) (oi := { dst := some 192, op := Op.binOp BinOp.add 3 (Operand.tmp 191) (Operand.const (Value.int IntKind.i64 1)) 3, type := 3, pos := "gen.go:357", after := _, guard := none }) (v := ?v507) rfl (by kernel_rfl) (by kernel_rfl) (by kernel_rfl) (fun _ _ _ h => h) (Or.inl ⟨by rfl, ?hy507⟩) (by assumption) ?rest507
      case hy507 => (intro w hSw; (try dsimp only at hSw); go_simp <;> with_reducible rfl)
      try simp only [Act.put, List.setIfInBounds_toArray, List.set_cons_zero, List.set_cons_succ]
      refine wpAnyH_take (i := 7) (oi := { dst := some 193, op := Op.move (Operand.tmp 1), type := 3, pos := "gen.go:357", after := _, guard := none }) (v := ?v508) rfl (by kernel_rfl) (by kernel_rfl) (by kernel_rfl) (fun _ _ _ h => h) (Or.inl ⟨by rfl, ?hy508⟩) (by assumption) ?rest508
      case hy508 => (intro w hSw; (try dsimp only at hSw); go_simp <;> with_reducible rfl)
      try simp only [Act.put, List.setIfInBounds_toArray, List.set_cons_zero, List.set_cons_succ]
      refine wpAnyH_take (i := 9) (oi := { dst := some 195, op := Op.move (Operand.tmp 23), type := 9, pos := "gen.go:357", after := _, guard := none }) (v := ?v509) rfl (by kernel_rfl) (by kernel_rfl) (by kernel_rfl) (fun _ _ _ h => h) (Or.inl ⟨by rfl, ?hy509⟩) (by assumption) ?rest509
      case hy509 => (intro w hSw; (try dsimp only at hSw); go_simp <;> with_reducible rfl)
      try simp only [Act.put, List.setIfInBounds_toArray, List.set_cons_zero, List.set_cons_succ]
      refine wpAnyH_take (i := 10) (oi := { dst := some 196, op := Op.move (Operand.tmp 17), type := 37, pos := "gen.go:357", after := _, guard := none }) (v := ?v510) rfl (by kernel_rfl) (by kernel_rfl) (by kernel_rfl) (fun _ _ _ h => h) (Or.inl ⟨by rfl, ?hy510⟩) (by assumption) ?rest510
      case hy510 => (intro w hSw; (try dsimp only at hSw); go_simp <;> with_reducible rfl)
      try simp only [Act.put, List.setIfInBounds_toArray, List.set_cons_zero, List.set_cons_succ]
      refine wpAnyH_take (i := 11) (oi := { dst := some 197, op := Op.move (Operand.tmp 18), type := 37, pos := "gen.go:357", after := _, guard := none }) (v := ?v511) rfl (by kernel_rfl) (by kernel_rfl) (by kernel_rfl) (fun _ _ _ h => h) (Or.inl ⟨by rfl, ?hy511⟩) (by assumption) ?rest511
      case hy511 => (intro w hSw; (try dsimp only at hSw); go_simp <;> with_reducible rfl)
      try simp only [Act.put, List.setIfInBounds_toArray, List.set_cons_zero, List.set_cons_succ]
      refine wpAnyH_take (i := 12) (oi := { dst := some 198, op := Op.move (Operand.tmp 19), type := 37, pos := "gen.go:357", after := _, guard := none }) (v := ?v512) rfl (by kernel_rfl) (by kernel_rfl) (by kernel_rfl) (fun _ _ _ h => h) (Or.inl ⟨by rfl, ?hy512⟩) (by assumption) ?rest512
      case hy512 => (intro w hSw; (try dsimp only at hSw); go_simp <;> with_reducible rfl)
      try simp only [Act.put, List.setIfInBounds_toArray, List.set_cons_zero, List.set_cons_succ]
      refine wpAnyH_take (i := 13) (oi := { dst := some 199, op := Op.build 39 #[(0, Operand.tmp 196), (1, Operand.tmp 197), (2, Operand.tmp 198)], type := 39, pos := "gen.go:357", after := _, guard := none }) (v := ?v513) rfl (by kernel_rfl) (by kernel_rfl) (by kernel_rfl) (fun _ _ _ h => h) (Or.inl ⟨by rfl, ?hy513⟩) (by assumption) ?rest513
      case hy513 => (intro w hSw; (try dsimp only at hSw); go_simp <;> with_reducible rfl)
      try simp only [Act.put, List.setIfInBounds_toArray, List.set_cons_zero, List.set_cons_succ]
      refine wpAnyH_take (i := 14) (oi := { dst := some 200, op := Op.move (Operand.tmp 17), type := 37, pos := "gen.go:357", after := _, guard := none }) (v := ?v514) rfl (by kernel_rfl) (by kernel_rfl) (by kernel_rfl) (fun _ _ _ h => h) (Or.inl ⟨by rfl, ?hy514⟩) (by assumption) ?rest514
      case hy514 => (intro w hSw; (try dsimp only at hSw); go_simp <;> with_reducible rfl)
      try simp only [Act.put, List.setIfInBounds_toArray, List.set_cons_zero, List.set_cons_succ]
      refine wpAnyH_take (i := 15) (oi := { dst := some 201, op := Op.binOp BinOp.mul 37 (Operand.const (Value.float FloatKind.f64 4611686018427387904)) (Operand.tmp 200) 37, type := 37, pos := "gen.go:357", after := _, guard := none }) (v := ?v515) rfl (by kernel_rfl) (by kernel_rfl) (by kernel_rfl) (fun _ _ _ h => h) (Or.inl ⟨by rfl, ?hy515⟩) (by assumption) ?rest515
      case hy515 => (intro w hSw; (try dsimp only at hSw); go_simp <;> with_reducible rfl)
      try simp only [Act.put, List.setIfInBounds_toArray, List.set_cons_zero, List.set_cons_succ]
      refine wpAnyH_take (i := 16) (oi := { dst := some 202, op := Op.move (Operand.tmp 18), type := 37, pos := "gen.go:357", after := _, guard := none }) (v := ?v516) rfl (by kernel_rfl) (by kernel_rfl) (by kernel_rfl) (fun _ _ _ h => h) (Or.inl ⟨by rfl, ?hy516⟩) (by assumption) ?rest516
      case hy516 => (intro w hSw; (try dsimp only at hSw); go_simp <;> with_reducible rfl)
      try simp only [Act.put, List.setIfInBounds_toArray, List.set_cons_zero, List.set_cons_succ]
      refine wpAnyH_take (i := 17) (oi := { dst := some 203, op := Op.build 56 #[(0, Operand.tmp 201), (1, Operand.tmp 202)], type := 56, pos := "gen.go:357", after := _, guard := none }) (v := ?v517) rfl (by kernel_rfl) (by kernel_rfl) (by kernel_rfl) (fun _ _ _ h => h) (Or.inl ⟨by rfl, ?hy517⟩) (by assumption) ?rest517
      case hy517 => (intro w hSw; (try dsimp only at hSw); go_simp <;> with_reducible rfl)
      try simp only [Act.put, List.setIfInBounds_toArray, List.set_cons_zero, List.set_cons_succ]
      refine wpAnyH_take (i := 18) (oi := { dst := some 204, op := Op.move (Operand.tmp 16), type := 3, pos := "gen.go:357", after := _, guard := none }) (v := ?v518) rfl (by kernel_rfl) (by kernel_rfl) (by kernel_rfl) (fun _ _ _ h => h) (Or.inl ⟨by rfl, ?hy518⟩) (by assumption) ?rest518
      case hy518 => (intro w hSw; (try dsimp only at hSw); go_simp <;> with_reducible rfl)
      try simp only [Act.put, List.setIfInBounds_toArray, List.set_cons_zero, List.set_cons_succ]
      refine wpAnyH_take (i := 19) (oi := { dst := some 205, op := Op.binOp BinOp.add 3 (Operand.tmp 204) (Operand.const (Value.int IntKind.i64 1)) 3, type := 3, pos := "gen.go:357", after := _, guard := none }) (v := ?v519) rfl (by kernel_rfl) (by kernel_rfl) (by kernel_rfl) (fun _ _ _ h => h) (Or.inl ⟨by rfl, ?hy519⟩) (by assumption) ?rest519
      case hy519 => (intro w hSw; (try dsimp only at hSw); go_simp <;> with_reducible rfl)
      try simp only [Act.put, List.setIfInBounds_toArray, List.set_cons_zero, List.set_cons_succ]
      refine wpAnyH_take (i := 20) (oi := { dst := some 206, op := Op.move (Operand.tmp 1), type := 3, pos := "gen.go:357", after := _, guard := none }) (v := ?v520) rfl (by kernel_rfl) (by kernel_rfl) (by kernel_rfl) (fun _ _ _ h => h) (Or.inl ⟨by rfl, ?hy520⟩) (by assumption) ?rest520
      case hy520 => (intro w hSw; (try dsimp only at hSw); go_simp <;> with_reducible rfl)
      try simp only [Act.put, List.setIfInBounds_toArray, List.set_cons_zero, List.set_cons_succ]
      refine wpAnyH_take (i := 22) (oi := { dst := some 208, op := Op.move (Operand.tmp 20), type := 37, pos := "gen.go:357", after := _, guard := none }) (v := ?v521) rfl (by kernel_rfl) (by kernel_rfl) (by kernel_rfl) (fun _ _ _ h => h) (Or.inl ⟨by rfl, ?hy521⟩) (by assumption) ?rest521
      case hy521 => (intro w hSw; (try dsimp only at hSw); go_simp <;> with_reducible rfl)
      try simp only [Act.put, List.setIfInBounds_toArray, List.set_cons_zero, List.set_cons_succ]
      refine wpAnyH_take (i := 24) (oi := { dst := some 210, op := Op.move (Operand.tmp 21), type := 37, pos := "gen.go:357", after := _, guard := none }) (v := ?v522) rfl (by kernel_rfl) (by kernel_rfl) (by kernel_rfl) (fun _ _ _ h => h) (Or.inl ⟨by rfl, ?hy522⟩) (by assumption) ?rest522
      case hy522 => (intro w hSw; (try dsimp only at hSw); go_simp <;> with_reducible rfl)
      try simp only [Act.put, List.setIfInBounds_toArray, List.set_cons_zero, List.set_cons_succ]
      refine wpAnyH_take (i := 25) (oi := { dst := some 211, op := Op.move (Operand.tmp 22), type := 37, pos := "gen.go:357", after := _, guard := none }) (v := ?v523) rfl (by kernel_rfl) (by kernel_rfl) (by kernel_rfl) (fun _ _ _ h => h) (Or.inl ⟨by rfl, ?hy523⟩) (by assumption) ?rest523
      case hy523 => (intro w hSw; (try dsimp only at hSw); go_simp <;> with_reducible rfl)
      try simp only [Act.put, List.setIfInBounds_toArray, List.set_cons_zero, List.set_cons_succ]
      refine wpAnyH_ready (rs := [8]) (by kernel_rfl) (by simp) ?_
      refine AllReadyH.cons rfl (fun K hK => ?_) AllReadyH.nil
      go_simp
      refine (num ⟨#[112]⟩ _ hTab.out.2 hTab.out.1).mono ?_
      rintro e v8 ⟨rfl, hb8⟩
      have hTab8 : Hid (Tab v8 ∧ F.answers v8.tape) := ⟨hTab.out.1.below hb8, by rw [hb8.tape]; exact hTab.out.2⟩
      dsimp only
      refine hK.out _ _ (held_next (w' := v8) hb8 hd7 (by decide)) (fun hHeld => ?_)
      clear hK K
      try simp only [Act.put, List.setIfInBounds_toArray, List.set_cons_zero, List.set_cons_succ]
      refine wpAnyH_ready (rs := [21]) (by kernel_rfl) (by simp) ?_
      refine AllReadyH.cons rfl (fun K hK => ?_) AllReadyH.nil
      go_simp
      refine (num ⟨#[105]⟩ _ hTab8.out.2 hTab8.out.1).mono ?_
      rintro e v9 ⟨rfl, hb9⟩
      dsimp only
      refine hK.out _ _ (held_next (w' := v9) hb9 hHeld (by decide)) (fun hHeld => ?_)
      clear hK K
      try simp only [Act.put, List.setIfInBounds_toArray, List.set_cons_zero, List.set_cons_succ]
      refine wpAnyH_take (i := 23) (oi := { dst := some 209, op := Op.build 59 #[(0, Operand.tmp 207), (1, Operand.tmp 208)], type := 59, pos := "gen.go:357", after := _, guard := none }) (v := ?v524) rfl (by kernel_rfl) (by kernel_rfl) (by kernel_rfl) (fun _ _ _ h => h) (Or.inl ⟨by rfl, ?hy524⟩) (by assumption) ?rest524
      case hy524 => (intro w hSw; (try dsimp only at hSw); go_simp <;> with_reducible rfl)
      try simp only [Act.put, List.setIfInBounds_toArray, List.set_cons_zero, List.set_cons_succ]
      refine wpAnyH_take (i := 26) (oi := { dst := some 212, op := Op.build 66 #[(0, Operand.tmp 194), (2, Operand.tmp 195), (3, Operand.tmp 199), (6, Operand.tmp 203), (7, Operand.tmp 209), (9, Operand.tmp 210), (10, Operand.tmp 211)], type := 66, pos := "gen.go:357", after := _, guard := none }) (v := ?v525) rfl (by kernel_rfl) (by kernel_rfl) (by kernel_rfl) (fun _ _ _ h => h) (Or.inl ⟨by rfl, ?hy525⟩) (by assumption) ?rest525
      case hy525 => (intro w hSw; (try dsimp only at hSw); go_simp <;> with_reducible rfl)
      try simp only [Act.put, List.setIfInBounds_toArray, List.set_cons_zero, List.set_cons_succ]
      refine wpAnyH_take (i := 27) (oi := { dst := some 213, op := Op.indexAddr 31 (Operand.tmp 189) (Operand.tmp 190), type := 0, pos := "gen.go:357", after := _, guard := none }) (v := ?v526) rfl (by kernel_rfl) (by kernel_rfl) (by kernel_rfl) (fun _ _ _ h => h) (Or.inl ⟨by rfl, ?hy526⟩) (by assumption) ?rest526
      case hy526 => (intro w hSw; (try dsimp only at hSw); go_simp <;> with_reducible rfl)
      try simp only [Act.put, List.setIfInBounds_toArray, List.set_cons_zero, List.set_cons_succ]
      refine wpAnyH_ready (rs := [28]) (by kernel_rfl) (by simp) ?_
      refine AllReadyH.cons rfl (fun K hK => ?_) AllReadyH.nil
      have ht9 := hHeld.2
      go_simp
      refine hK.out _ _ (held_set (w := v9) _ hHeld hSQ) (fun hHeld => ?_)
      clear hK K
      try simp only [Act.put, List.setIfInBounds_toArray, List.set_cons_zero, List.set_cons_succ]
      refine wpAnyH_done (by kernel_rfl) ?_ _
      refine NoPanic.normal ?_
      have H9 : Hid (IsRand v9 p3 q3 (draw (N + 1) (pt6 s0)).2 ∧ Snap w v9 S A R Q N P k k ∧ NodesTo F N seed v9 A (N + 1) ∧ RttTo F N seed v9 R k ∧ PodsTo F N P seed v9 Q i) := by
        have d := HS7.out
        have d2 : Snap w v7.drew S A R Q N P k k := d.2.1.kept d.2.1.bel.drew (Nat.le_refl _) rfl rfl rfl rfl
        have d3 := d2.below hb8
        exact ⟨((d.1.kept (w' := v7.drew) (Nat.le_refl _) rfl rfl).below hb8).below hb9, d3.below hb9,
          ((d.2.2.1.kept (w' := v7.drew) rfl).kept (hb8.block A d2.rA.1)).kept (hb9.block A d3.rA.1),
          ((d.2.2.2.1.kept (w' := v7.drew) rfl).kept (hb8.block R d2.rR.1)).kept (hb9.block R d3.rR.1),
          ((d.2.2.2.2.kept (w' := v7.drew) rfl).kept (hb8.block Q d2.rQ.1)).kept (hb9.block Q d3.rQ.1)⟩
      generalize hvs : [Value.string (numText F ⟨#[112]⟩ (i + 1) P), .string ⟨#[]⟩, .string (nName F N en), .float .f64 (floatOfInt .f64 ((uniN 100 1000 s0 : Nat) : Int)), .float .f64 (floatOfInt .f64 ((uniN 128 2048 (pt1 s0) : Nat) : Int)), .float .f64 (floatOfInt .f64 ((uniN 1 20 (pt2 s0) : Nat) : Int)), .bool false, .float .f64 0, .float .f64 0, .float .f64 0, .float .f64 (dbl (uniN 100 1000 s0)), .float .f64 (floatOfInt .f64 ((uniN 128 2048 (pt1 s0) : Nat) : Int)), .string (numText F ⟨#[105]⟩ (i + 1) P), .float .f64 (cents (uniN 1000 50000 (pt3 s0))), .slice none 0 0, .slice none 0 0, .float .f64 (cents (uniN 1 1000 (pt4 s0))), .float .f64 (cents (uniN 0 5000 (pt5 s0))), .float .f64 0, .slice none 0 0, .map none, .slice none 0 0, .slice none 0 0] = vs
      have H10 : Hid (IsRand (v9.setCells Q (i * 23) vs) p3 q3 (pst seed N (i + 1)) ∧ Snap w (v9.setCells Q (i * 23) vs) S A R Q N P k k ∧ NodesTo F N seed (v9.setCells Q (i * 23) vs) A (N + 1) ∧ RttTo F N seed (v9.setCells Q (i * 23) vs) R k ∧ PodsTo F N P seed (v9.setCells Q (i * 23) vs) Q (i + 1)) := by
        obtain ⟨k1, k2, k3, k4, k5⟩ := H9.out
        have hAQ := k2.ne.2.2.2.2.1
        have hRQ := k2.ne.2.2.2.2.2
        have hsA := World.heap_setCells_other v9 Q (i * 23) vs k2.rA.1 hAQ
        have hsR := World.heap_setCells_other v9 Q (i * 23) vs k2.rR.1 hRQ
        subst hen hs0
        exact ⟨k1.set Q _ vs m4 n4, k2.set Q (Or.inr (Or.inr rfl)) _ vs, k3.kept hsA, k4.kept hsR,
          k5.succ vs (by rw [← hvs]; rfl) (k2.rQ.there _ _ (by omega)) (by rw [← hvs]; rfl) (by rw [← hvs]; rfl) (by rw [← hvs]; exact fl_some _) (by rw [← hvs]; exact fl_some _) (by rw [← hvs]; exact fl_some _)
            (by rw [← hvs]; rfl) (by rw [← hvs]; exact fl_some _) (by rw [← hvs]; rfl) (by rw [← hvs]; rfl) (by rw [← hvs]; rfl) (by rw [← hvs]; rfl)⟩
      generalize v9.setCells Q (i * 23) vs = v10 at H10 hHeld
      clear H9 hvs hb8 hb9 hTab hTab8 hd7 HS7 ht9 hHeld num hmul
      go_wp2
      go_roundg (P - i - 1)
      case rel => exact ⟨i + 1, by omega, by omega, by go_num, H10.out⟩
      case measure => omega
    · obtain rfl : i = P := by omega
      have hlt' : decide ((i : Int) < (i : Int)) = false := decide_eq_false (by omega)
      go_wp2
      apply hK.out
      exact HI.out.2
end Go.Proofs.Qxb6608650aFmt
