/-
  DERIVED. GenerateSnapshot's inner loop of the round trips, a theorem of its own.
-/
import Derived.Test.Qxb6608650aFmtGenA
namespace Go.Proofs.Qxb6608650aFmt
open Go.RowKit Go.Extern.Stop Go.Stop Go.Extern

attribute [-go_sem] storeVar
attribute [local go_sem] store47 store66 store29

noncomputable def gblk5 : Code := Cr (Cr (Cb (Cl (Cr (Cr (Co (Cb (Cr (Cl (Cr (Cr (Cr (Cr (Cr (Cr (Cr body7))))))))))))))))

set_option maxRecDepth 100000 in
set_option maxHeartbeats 4000000 in
theorem gloop3 {c : Code} (hc : c = gblk5) (F : Interp) (N P seed M a k : Nat) (w w9 : World) (S A R Q p2 q2 : Nat) (hN : N ≤ 1024) (halt : a < N + 1) (HM : Hid (2 * M = (N + 1) * N))
    (n1 : S ≠ q2) (n2 : A ≠ q2) (n3 : R ≠ q2) (n4 : Q ≠ q2) (m1 : S ≠ p2) (m3 : R ≠ p2) (hWq : w.heap.size ≤ q2) (HI : Hid (2 * k + a * a = 2 * (a * N) + a ∧ (a < N → pairAt N k = (a, a + 1)) ∧ IsRand w9 p2 q2 (rst seed k) ∧ Snap w w9 S A R Q N P M k ∧ NodesTo F N seed w9 A (N + 1) ∧ RttTo F N seed w9 R k))
    {QQ : Exit → Act → World → Prop} {u3 u4 u5 u6 u7 u10 u11 u12 u13 u16 u17 u18 u19 u20 u21 u22 u23 u24 u25 u26 u27 u28 u29 u30 u31 u32 u33 u34 u35 u36 u37 u38 u39 u40 u41 u42 u43 u44 u45 u46 u47 u48 u49 u50 u51 u52 u53 u54 u55 u56 u57 u58 u59 u60 u61 u62 u63 u64 u65 u66 u67 u68 u69 u70 u71 u72 u73 u74 u75 u76 u77 u78 u79 u80 u81 u82 u83 u84 u85 u86 u87 u88 u89 u90 u91 u92 u93 u94 u95 u96 u97 u98 u99 u100 u101 u102 u105 u106 u107 u108 u109 u110 u111 u112 u113 u114 u115 u116 u117 u118 u119 u120 u121 u122 u123 u124 u125 u126 u127 u128 u129 u130 u131 u132 u133 u134 u135 u136 u137 u138 u139 u140 u141 u142 u143 u144 u145 u146 u147 u148 u149 u150 u151 u152 u153 u154 u155 u156 u157 u158 u159 u160 u161 u162 u163 u164 u165 u166 u167 u168 u169 u170 u171 u172 u173 u174 u175 u176 u177 u178 u179 u180 u181 u182 u183 u184 u185 u186 u187 u188 u189 u190 u191 u192 u193 u194 u195 u196 u197 u198 u199 u200 u201 u202 u203 u204 u205 u206 u207 u208 u209 u210 u211 u212 u213 u214 u215 : Value}
    (hK : Hid (∀ (w' : World) (l : Nat) (v15 v109 v110 v111 v112 v113 v114 v115 v116 v117 v118 v119 v120 v121 v122 v123 v124 v125 v126 v127 v128 v129 v130 v131 v132 v133 v134 v135 v136 v137 v138 v139 v140 v141 v142 v143 v144 v145 : Value), (2 * l + a * a + a + 2 = 2 * (a * N) + 2 * (N + 1) ∧ (a < N → pairAt N l = (a + 1, a + 2)) ∧ IsRand w' p2 q2 (rst seed l) ∧ Snap w w' S A R Q N P M l ∧ NodesTo F N seed w' A (N + 1) ∧ RttTo F N seed w' R l) → QQ .normal ⟨#[.int .i64 N, .int .i64 P, .int .u64 seed, u3, u4, u5, u6, u7, .pointer (some ⟨S, 0, none⟩), .pointer (some ⟨p2, 0, none⟩), u10, u11, u12, u13, .int .i64 a, v15, u16, u17, u18, u19, u20, u21, u22, u23, u24, u25, u26, u27, u28, u29, u30, u31, u32, u33, u34, u35, u36, u37, u38, u39, u40, u41, u42, u43, u44, u45, u46, u47, u48, u49, u50, u51, u52, u53, u54, u55, u56, u57, u58, u59, u60, u61, u62, u63, u64, u65, u66, u67, u68, u69, u70, u71, u72, u73, u74, u75, u76, u77, u78, u79, u80, u81, u82, u83, u84, u85, u86, u87, u88, u89, u90, u91, u92, u93, u94, u95, u96, u97, u98, u99, u100, u101, u102, .int .i64 ((N : Int) + 1), .int .i64 a, u105, u106, u107, u108, v109, v110, v111, v112, v113, v114, v115, v116, v117, v118, v119, v120, v121, v122, v123, v124, v125, v126, v127, v128, v129, v130, v131, v132, v133, v134, v135, v136, v137, v138, v139, v140, v141, v142, v143, v144, v145, u146, u147, u148, u149, u150, u151, u152, u153, u154, u155, u156, u157, u158, u159, u160, u161, u162, u163, u164, u165, u166, u167, u168, u169, u170, u171, u172, u173, u174, u175, u176, u177, u178, u179, u180, u181, u182, u183, u184, u185, u186, u187, u188, u189, u190, u191, u192, u193, u194, u195, u196, u197, u198, u199, u200, u201, u202, u203, u204, u205, u206, u207, u208, u209, u210, u211, u212, u213, u214, u215], []⟩ w')) :
    c.wp Tryf.prog QQ ⟨#[.int .i64 N, .int .i64 P, .int .u64 seed, u3, u4, u5, u6, u7, .pointer (some ⟨S, 0, none⟩), .pointer (some ⟨p2, 0, none⟩), u10, u11, u12, u13, .int .i64 a, .int .i64 ((a : Int) + 1), u16, u17, u18, u19, u20, u21, u22, u23, u24, u25, u26, u27, u28, u29, u30, u31, u32, u33, u34, u35, u36, u37, u38, u39, u40, u41, u42, u43, u44, u45, u46, u47, u48, u49, u50, u51, u52, u53, u54, u55, u56, u57, u58, u59, u60, u61, u62, u63, u64, u65, u66, u67, u68, u69, u70, u71, u72, u73, u74, u75, u76, u77, u78, u79, u80, u81, u82, u83, u84, u85, u86, u87, u88, u89, u90, u91, u92, u93, u94, u95, u96, u97, u98, u99, u100, u101, u102, .int .i64 ((N : Int) + 1), .int .i64 a, u105, u106, u107, u108, u109, u110, u111, u112, u113, u114, u115, u116, u117, u118, u119, u120, u121, u122, u123, u124, u125, u126, u127, u128, u129, u130, u131, u132, u133, u134, u135, u136, u137, u138, u139, u140, u141, u142, u143, u144, u145, u146, u147, u148, u149, u150, u151, u152, u153, u154, u155, u156, u157, u158, u159, u160, u161, u162, u163, u164, u165, u166, u167, u168, u169, u170, u171, u172, u173, u174, u175, u176, u177, u178, u179, u180, u181, u182, u183, u184, u185, u186, u187, u188, u189, u190, u191, u192, u193, u194, u195, u196, u197, u198, u199, u200, u201, u202, u203, u204, u205, u206, u207, u208, u209, u210, u211, u212, u213, u214, u215], []⟩ w9 := by
  subst hc
  simp only [gblk5, body7, Tryf.f7, Option.getD, Cl, Cr, Cb, Co]
  go_wp2_with fail
  obtain ⟨wo, rfl⟩ : ∃ wo : World, wo = w9 := ⟨_, rfl⟩
  go_loopg [15] (N + 1) (fun g x wr => ∃ b k : Nat, a + 1 ≤ b ∧ b ≤ N + 1 ∧ N + 1 ≤ b + g ∧ x = .int .i64 b ∧ 2 * k + a * a + a + 2 = 2 * (a * N) + 2 * b ∧ (b ≤ N → pairAt N k = (a, b)) ∧ (b = N + 1 → a < N → pairAt N k = (a + 1, a + 2)) ∧ IsRand wr p2 q2 (rst seed k) ∧ Snap w wr S A R Q N P M k ∧ NodesTo F N seed wr A (N + 1) ∧ RttTo F N seed wr R k)
  case atStart =>
    obtain ⟨i1, i2, i3⟩ := HI.out
    exact ⟨a + 1, k, by omega, by omega, by omega, by go_num, by omega, fun h => i2 (by omega), fun h h' => absurd h (by omega), i3⟩
  case round =>
    clear HI
    obtain ⟨b, l, hb0, hb1, hgb, rfl, hl, hp1, hp2, hI⟩ := hrel
    have HI : Hid (2 * l + a * a + a + 2 = 2 * (a * N) + 2 * b ∧ (b ≤ N → pairAt N l = (a, b)) ∧ (b = N + 1 → a < N → pairAt N l = (a + 1, a + 2)) ∧ IsRand wr p2 q2 (rst seed l) ∧ Snap w wr S A R Q N P M l ∧ NodesTo F N seed wr A (N + 1) ∧ RttTo F N seed wr R l) := ⟨hl, hp1, hp2, hI⟩
    clear hl hp1 hp2 hI
    have c0 := HI.out.2.2.2.2.1.c0
    by_cases hblt : b < N + 1
    · have hS := HI.out.2.2.2.2.1
      have c1 := hS.c1
      have hltS := hS.lt
      have hltA := hS.rA.1
      have hSA := hS.ne.1
      have hSR := hS.ne.2.1
      have hAR := hS.ne.2.2.2.1
      have hlM : l < M := pair_lt HI.out.1 (by omega) (by omega) HM.out
      have rd : Hid (IsRand wr.drew p2 q2 (rst seed l) ∧ Snap w wr.drew S A R Q N P M l) := ⟨HI.out.2.2.2.1.kept (Nat.le_refl _) rfl rfl, hS.kept hS.bel.drew (Nat.le_refl _) rfl rfl rfl rfl⟩
      have ca := (HI.out.2.2.2.2.2.1 a (by omega)).1
      have cb := (HI.out.2.2.2.2.2.1 b (by omega)).1
      have hd : wr.drew.cell? ⟨S, 0, none⟩ = some (.slice (some ⟨A, 0, none⟩) (N + 1) (N + 1)) ∧ wr.drew.cell? ⟨A, a * 22, none⟩ = some (.string (nName F N a)) ∧ wr.drew.cell? ⟨A, b * 22, none⟩ = some (.string (nName F N b)) := ⟨c0, ca, cb⟩
      have j0 : (0 : Int) ≤ (a : Int) := by omega
      have j1 : (a : Int) < (N : Int) + 1 := by omega
      have j2 : (0 : Int) ≤ (b : Int) := by omega
      have j3 : (b : Int) < (N : Int) + 1 := by omega
      have hltS' : S < wr.drew.heap.size := hltS
      have hltA' : A < wr.drew.heap.size := hltA
      have hpa := HI.out.2.1 (by omega)
      clear hS
      go_wp2
      clear ca cb
      refine wp_region_noPanic ?_
      refine wp_region_held_drew (S := fun w' => w'.cell? ⟨S, 0, none⟩ = some (.slice (some ⟨A, 0, none⟩) (N + 1) (N + 1)) ∧ w'.cell? ⟨A, a * 22, none⟩ = some (.string (nName F N a)) ∧ w'.cell? ⟨A, b * 22, none⟩ = some (.string (nName F N b))) (by kernel_rfl) hd (fun hHeld => ?_)
      refine wpAnyH_take (i := 0) (oi := { dst := some 118, op := Op.move (Operand.tmp 8), type := 23, pos := "gen.go:345", after := _, guard := none }) (v := ?v1) rfl (by kernel_rfl) (by kernel_rfl) (by kernel_rfl) (fun _ _ _ h => h) (Or.inl ⟨by rfl, ?hy1⟩) (by assumption) ?rest1
      case hy1 => (intro w hSw; (try dsimp only at hSw); go_simp <;> with_reducible rfl)
      try simp only [Act.put, List.setIfInBounds_toArray, List.set_cons_zero, List.set_cons_succ]
      refine wpAnyH_take (i := 1) (oi := { dst := some 119, op := Op.move (Operand.tmp 8), type := 23, pos := "gen.go:345", after := _, guard := none }) (v := ?v2) rfl (by kernel_rfl) (by kernel_rfl) (by kernel_rfl) (fun _ _ _ h => h) (Or.inl ⟨by rfl, ?hy2⟩) (by assumption) ?rest2
      case hy2 => (intro w hSw; (try dsimp only at hSw); go_simp <;> with_reducible rfl)
      try simp only [Act.put, List.setIfInBounds_toArray, List.set_cons_zero, List.set_cons_succ]
      refine wpAnyH_take (i := 2) (oi := { dst := some 120, op := Op.nilCheck (Operand.tmp 119), type := 0, pos := "gen.go:345", after := _, guard := none }) (v := ?v3) rfl (by kernel_rfl) (by kernel_rfl) (by kernel_rfl) (fun _ _ _ h => h) (Or.inl ⟨by rfl, ?hy3⟩) (by assumption) ?rest3
      case hy3 => (intro w hSw; (try dsimp only at hSw); go_simp <;> with_reducible rfl)
      try simp only [Act.put, List.setIfInBounds_toArray, List.set_cons_zero, List.set_cons_succ]
      refine wpAnyH_take (i := 3) (oi := { dst := some 121, op := Op.fieldAddr 35 (Operand.tmp 120) 1, type := 0, pos := "gen.go:345", after := _, guard := none }) (v := ?v4) rfl (by kernel_rfl) (by kernel_rfl) (by kernel_rfl) (fun _ _ _ h => h) (Or.inl ⟨by rfl, ?hy4⟩) (by assumption) ?rest4
      case hy4 => (intro w hSw; (try dsimp only at hSw); go_simp <;> with_reducible rfl)
      try simp only [Act.put, List.setIfInBounds_toArray, List.set_cons_zero, List.set_cons_succ]
      refine wpAnyH_take (i := 5) (oi := { dst := some 123, op := Op.move (Operand.tmp 8), type := 23, pos := "gen.go:345", after := _, guard := none }) (v := ?v5) rfl (by kernel_rfl) (by kernel_rfl) (by kernel_rfl) (fun _ _ _ h => h) (Or.inl ⟨by rfl, ?hy5⟩) (by assumption) ?rest5
      case hy5 => (intro w hSw; (try dsimp only at hSw); go_simp <;> with_reducible rfl)
      try simp only [Act.put, List.setIfInBounds_toArray, List.set_cons_zero, List.set_cons_succ]
      refine wpAnyH_take (i := 6) (oi := { dst := some 124, op := Op.nilCheck (Operand.tmp 123), type := 0, pos := "gen.go:345", after := _, guard := none }) (v := ?v6) rfl (by kernel_rfl) (by kernel_rfl) (by kernel_rfl) (fun _ _ _ h => h) (Or.inl ⟨by rfl, ?hy6⟩) (by assumption) ?rest6
      case hy6 => (intro w hSw; (try dsimp only at hSw); go_simp <;> with_reducible rfl)
      try simp only [Act.put, List.setIfInBounds_toArray, List.set_cons_zero, List.set_cons_succ]
      refine wpAnyH_take (i := 7) (oi := { dst := some 125, op := Op.fieldAddr 35 (Operand.tmp 124) 0, type := 0, pos := "gen.go:345", after := _, guard := none }) (v := ?v7) rfl (by kernel_rfl) (by kernel_rfl) (by kernel_rfl) (fun _ _ _ h => h) (Or.inl ⟨by rfl, ?hy7⟩) (by assumption) ?rest7
      case hy7 => (intro w hSw; (try dsimp only at hSw); go_simp <;> with_reducible rfl)
      try simp only [Act.put, List.setIfInBounds_toArray, List.set_cons_zero, List.set_cons_succ]
      refine wpAnyH_take (i := 8) (oi := { dst := some 126, op := Op.load 28 (Operand.tmp 125), type := 28, pos := "gen.go:345", after := _, guard := none }) (v := ?v8) rfl (by kernel_rfl) (by kernel_rfl) (by kernel_rfl) (fun _ _ _ h => h) (Or.inl ⟨by rfl, ?hy8⟩) (by assumption) ?rest8
      case hy8 => (intro w hSw; (try dsimp only at hSw); go_simp <;> with_reducible rfl)
      try simp only [Act.put, List.setIfInBounds_toArray, List.set_cons_zero, List.set_cons_succ]
      refine wpAnyH_take (i := 9) (oi := { dst := some 127, op := Op.move (Operand.tmp 14), type := 3, pos := "gen.go:345", after := _, guard := none }) (v := ?v9) rfl (by kernel_rfl) (by kernel_rfl) (by kernel_rfl) (fun _ _ _ h => h) (Or.inl ⟨by rfl, ?hy9⟩) (by assumption) ?rest9
      case hy9 => (intro w hSw; (try dsimp only at hSw); go_simp <;> with_reducible rfl)
      try simp only [Act.put, List.setIfInBounds_toArray, List.set_cons_zero, List.set_cons_succ]
      refine wpAnyH_take (i := 10) (oi := { dst := some 128, op := Op.indexAddr 28 (Operand.tmp 126) (Operand.tmp 127), type := 0, pos := "gen.go:345", after := _, guard := none }) (v := ?v10) rfl (by kernel_rfl) (by kernel_rfl) (by kernel_rfl) (fun _ _ _ h => h) (Or.inl ⟨by rfl, ?hy10⟩) (by assumption) ?rest10
      case hy10 => (intro w hSw; (try dsimp only at hSw); go_simp <;> with_reducible rfl)
      try simp only [Act.put, List.setIfInBounds_toArray, List.set_cons_zero, List.set_cons_succ]
      refine wpAnyH_take (i := 11) (oi := { dst := some 129, op := Op.fieldAddr 47 (Operand.tmp 128) 0, type := 0, pos := "gen.go:345", after := _, guard := none }) (v := ?v11) rfl (by kernel_rfl) (by kernel_rfl) (by kernel_rfl) (fun _ _ _ h => h) (Or.inl ⟨by rfl, ?hy11⟩) (by assumption) ?rest11
      case hy11 => (intro w hSw; (try dsimp only at hSw); go_simp <;> with_reducible rfl)
      try simp only [Act.put, List.setIfInBounds_toArray, List.set_cons_zero, List.set_cons_succ]
      refine wpAnyH_take (i := 12) (oi := { dst := some 130, op := Op.load 9 (Operand.tmp 129), type := 9, pos := "gen.go:345", after := _, guard := none }) (v := ?v12) rfl (by kernel_rfl) (by kernel_rfl) (by kernel_rfl) (fun _ _ _ h => h) (Or.inl ⟨by rfl, ?hy12⟩) (by assumption) ?rest12
      case hy12 => (intro w hSw; (try dsimp only at hSw); go_simp <;> with_reducible rfl)
      try simp only [Act.put, List.setIfInBounds_toArray, List.set_cons_zero, List.set_cons_succ]
      refine wpAnyH_take (i := 13) (oi := { dst := some 131, op := Op.move (Operand.tmp 8), type := 23, pos := "gen.go:345", after := _, guard := none }) (v := ?v13) rfl (by kernel_rfl) (by kernel_rfl) (by kernel_rfl) (fun _ _ _ h => h) (Or.inl ⟨by rfl, ?hy13⟩) (by assumption) ?rest13
      case hy13 => (intro w hSw; (try dsimp only at hSw); go_simp <;> with_reducible rfl)
      try simp only [Act.put, List.setIfInBounds_toArray, List.set_cons_zero, List.set_cons_succ]
      refine wpAnyH_take (i := 14) (oi := { dst := some 132, op := Op.nilCheck (Operand.tmp 131), type := 0, pos := "gen.go:345", after := _, guard := none }) (v := ?v14) rfl (by kernel_rfl) (by kernel_rfl) (by kernel_rfl) (fun _ _ _ h => h) (Or.inl ⟨by rfl, ?hy14⟩) (by assumption) ?rest14
      case hy14 => (intro w hSw; (try dsimp only at hSw); go_simp <;> with_reducible rfl)
      try simp only [Act.put, List.setIfInBounds_toArray, List.set_cons_zero, List.set_cons_succ]
      refine wpAnyH_take (i := 15) (oi := { dst := some 133, op := Op.fieldAddr 35 (Operand.tmp 132) 0, type := 0, pos := "gen.go:345", after := _, guard := none }) (v := ?v15) rfl (by kernel_rfl) (by kernel_rfl) (by kernel_rfl) (fun _ _ _ h => h) (Or.inl ⟨by rfl, ?hy15⟩) (by assumption) ?rest15
      case hy15 => (intro w hSw; (try dsimp only at hSw); go_simp <;> with_reducible rfl)
      try simp only [Act.put, List.setIfInBounds_toArray, List.set_cons_zero, List.set_cons_succ]
      refine wpAnyH_take (i := 16) (oi := { dst := some 134, op := Op.load 28 (Operand.tmp 133), type := 28, pos := "gen.go:345", after := _, guard := none }) (v := ?v16) rfl (by kernel_rfl) (by kernel_rfl) (by kernel_rfl) (fun _ _ _ h => h) (Or.inl ⟨by rfl, ?hy16⟩) (by assumption) ?rest16
      case hy16 => (intro w hSw; (try dsimp only at hSw); go_simp <;> with_reducible rfl)
      try simp only [Act.put, List.setIfInBounds_toArray, List.set_cons_zero, List.set_cons_succ]
      refine wpAnyH_take (i := 17) (oi := { dst := some 135, op := Op.move (Operand.tmp 15), type := 3, pos := "gen.go:345", after := _, guard := none }) (v := ?v17) rfl (by kernel_rfl) (by kernel_rfl) (by kernel_rfl) (fun _ _ _ h => h) (Or.inl ⟨by rfl, ?hy17⟩) (by assumption) ?rest17
      case hy17 => (intro w hSw; (try dsimp only at hSw); go_simp <;> with_reducible rfl)
      try simp only [Act.put, List.setIfInBounds_toArray, List.set_cons_zero, List.set_cons_succ]
      refine wpAnyH_take (i := 18) (oi := { dst := some 136, op := Op.indexAddr 28 (Operand.tmp 134) (Operand.tmp 135), type := 0, pos := "gen.go:345", after := _, guard := none }) (v := ?v18) rfl (by kernel_rfl) (by kernel_rfl) (by kernel_rfl) (fun _ _ _ h => h) (Or.inl ⟨by rfl, ?hy18⟩) (by assumption) ?rest18
      case hy18 => (intro w hSw; (try dsimp only at hSw); go_simp <;> with_reducible rfl)
      try simp only [Act.put, List.setIfInBounds_toArray, List.set_cons_zero, List.set_cons_succ]
      refine wpAnyH_take (i := 19) (oi := { dst := some 137, op := Op.fieldAddr 47 (Operand.tmp 136) 0, type := 0, pos := "gen.go:345", after := _, guard := none }) (v := ?v19) rfl (by kernel_rfl) (by kernel_rfl) (by kernel_rfl) (fun _ _ _ h => h) (Or.inl ⟨by rfl, ?hy19⟩) (by assumption) ?rest19
      case hy19 => (intro w hSw; (try dsimp only at hSw); go_simp <;> with_reducible rfl)
      try simp only [Act.put, List.setIfInBounds_toArray, List.set_cons_zero, List.set_cons_succ]
      refine wpAnyH_take (i := 20) (oi := { dst := some 138, op := Op.load 9 (Operand.tmp 137), type := 9, pos := "gen.go:345", after := _, guard := none }) (v := ?v20) rfl (by kernel_rfl) (by kernel_rfl) (by kernel_rfl) (fun _ _ _ h => h) (Or.inl ⟨by rfl, ?hy20⟩) (by assumption) ?rest20
      case hy20 => (intro w hSw; (try dsimp only at hSw); go_simp <;> with_reducible rfl)
      try simp only [Act.put, List.setIfInBounds_toArray, List.set_cons_zero, List.set_cons_succ]
      refine wpAnyH_take (i := 21) (oi := { dst := some 139, op := Op.move (Operand.tmp 9), type := 82, pos := "gen.go:345", after := _, guard := none }) (v := ?v21) rfl (by kernel_rfl) (by kernel_rfl) (by kernel_rfl) (fun _ _ _ h => h) (Or.inl ⟨by rfl, ?hy21⟩) (by assumption) ?rest21
      case hy21 => (intro w hSw; (try dsimp only at hSw); go_simp <;> with_reducible rfl)
      try simp only [Act.put, List.setIfInBounds_toArray, List.set_cons_zero, List.set_cons_succ]
      refine wpAnyH_ready (rs := [4, 22]) (by kernel_rfl) (by simp) ?_
      refine AllReadyH.cons rfl (fun K hK => ?_) (AllReadyH.cons rfl (fun K hK => ?_) AllReadyH.nil)
      · go_simp
        refine hK.out _ _ (hHeld) (fun hHeld => ?_)
        clear hK K
        try simp only [Act.put, List.setIfInBounds_toArray, List.set_cons_zero, List.set_cons_succ]
        refine wpAnyH_ready (rs := [22]) (by kernel_rfl) (by simp) ?_
        refine AllReadyH.cons rfl (fun K hK => ?_) AllReadyH.nil
        go_simp
        refine (hundredths_any p2 q2 (rst seed l) 100 30000 _ (by decide) (by decide) rd.out.1).mono ?_
        rintro e w6 ⟨rfl, hR6', hO6'⟩
        have hO6 : Hid (Only q2 wr.drew w6) := hO6'
        have hR6 : Hid (IsRand w6 p2 q2 (uniS 100 30000 (rst seed l)) ∧ Snap w w6 S A R Q N P M l) := ⟨hR6', rd.out.2.only hO6' hWq n1 n2 n3 n4⟩
        have hT6 : Hid (NodesTo F N seed w6 A (N + 1) ∧ RttTo F N seed w6 R l) := ⟨(HI.out.2.2.2.2.2.1.kept (w' := wr.drew) rfl).kept (hO6'.rest A n2 hltA'), (HI.out.2.2.2.2.2.2.kept (w' := wr.drew) rfl).kept (hO6'.rest R n3 rd.out.2.rR.1)⟩
        have c16 := hR6.out.2.c1
        clear hR6' hO6'
        dsimp only
        refine hK.out _ _ (trip_kept (w' := w6) hd (hO6.out.rest S n1 hltS') (hO6.out.rest A n2 hltA')) (fun hHeld => ?_)
        clear hK K
        try simp only [Act.put, List.setIfInBounds_toArray, List.set_cons_zero, List.set_cons_succ]
        refine wpAnyH_take (i := 23) (oi := { dst := some 141, op := Op.build 53 #[(0, Operand.tmp 130), (1, Operand.tmp 138), (2, Operand.tmp 140)], type := 53, pos := "gen.go:345", after := _, guard := none }) (v := ?v22) rfl (by kernel_rfl) (by kernel_rfl) (by kernel_rfl) (fun _ _ _ h => h) (Or.inl ⟨by rfl, ?hy22⟩) (by assumption) ?rest22
        case hy22 => (intro w hSw; (try dsimp only at hSw); go_simp <;> with_reducible rfl)
        try simp only [Act.put, List.setIfInBounds_toArray, List.set_cons_zero, List.set_cons_succ]
        refine wpAnyH_ready (rs := [24]) (by kernel_rfl) (by simp) ?_
        refine AllReadyH.cons rfl (fun K hK => ?_) AllReadyH.nil
        go_simp
        refine hK.out _ _ (trip_alloc hHeld _) (fun hHeld => ?_)
        clear hK K
        try simp only [Act.put, List.setIfInBounds_toArray, List.set_cons_zero, List.set_cons_succ]
        refine wpAnyH_ready (rs := [25]) (by kernel_rfl) (by simp) ?_
        refine AllReadyH.cons (o := { dst := some 143, op := Op.call { callee := Callee.builtin Builtin.append, args := #[Operand.tmp 122, Operand.tmp 142], argTypes := #[29, 29] }, type := 29, pos := "gen.go:345", after := _, guard := none }) rfl (fun K hK => ?_) AllReadyH.nil
        refine step_rtt (by rfl) _ _ (by rfl) R l M (by rfl) (nName F N a) (nName F N b) (cents (uniN 100 30000 (rst seed l))) (by rfl) hR6.out.2.rR hlM ?_
        have hap := after_app hR6.out.2 (.cells #[.string (nName F N a), .string (nName F N b), .float .f64 (cents (uniN 100 30000 (rst seed l)))] 53) [.string (nName F N a), .string (nName F N b), .float .f64 (cents (uniN 100 30000 (rst seed l)))]
        refine hK.out _ _ (trip_set _ _ _ hHeld hSR hAR) (fun hHeld => ?_)
        clear hK K
        try simp only [Act.put, List.setIfInBounds_toArray, List.set_cons_zero, List.set_cons_succ]
        refine wpAnyH_take (i := 26) (oi := { dst := some 144, op := Op.nilCheck (Operand.tmp 118), type := 0, pos := "gen.go:345", after := _, guard := none }) (v := ?v23) rfl (by kernel_rfl) (by kernel_rfl) (by kernel_rfl) (fun _ _ _ h => h) (Or.inl ⟨by rfl, ?hy23⟩) (by assumption) ?rest23
        case hy23 => (intro w hSw; (try dsimp only at hSw); go_simp <;> with_reducible rfl)
        try simp only [Act.put, List.setIfInBounds_toArray, List.set_cons_zero, List.set_cons_succ]
        refine wpAnyH_take (i := 27) (oi := { dst := some 145, op := Op.fieldAddr 35 (Operand.tmp 144) 1, type := 0, pos := "gen.go:345", after := _, guard := none }) (v := ?v24) rfl (by kernel_rfl) (by kernel_rfl) (by kernel_rfl) (fun _ _ _ h => h) (Or.inl ⟨by rfl, ?hy24⟩) (by assumption) ?rest24
        case hy24 => (intro w hSw; (try dsimp only at hSw); go_simp <;> with_reducible rfl)
        try simp only [Act.put, List.setIfInBounds_toArray, List.set_cons_zero, List.set_cons_succ]
        refine wpAnyH_ready (rs := [28]) (by kernel_rfl) (by simp) ?_
        refine AllReadyH.cons rfl (fun K hK => ?_) AllReadyH.nil
        go_simp
        refine hK.out _ _ (trip_head _ hHeld hSA) (fun hHeld => ?_)
        clear hK K
        try simp only [Act.put, List.setIfInBounds_toArray, List.set_cons_zero, List.set_cons_succ]
        refine wpAnyH_done (by kernel_rfl) ?_ _
        refine NoPanic.normal ?_
        have hfin : Hid (IsRand (((w6.alloc (.cells #[.string (nName F N a), .string (nName F N b), .float .f64 (cents (uniN 100 30000 (rst seed l)))] 53)).setCells R (l * 3) [.string (nName F N a), .string (nName F N b), .float .f64 (cents (uniN 100 30000 (rst seed l)))]).setCell ⟨S, 1, none⟩ (.slice (some ⟨R, 0, none⟩) (l + 1) M)) p2 q2 (rst seed (l + 1)) ∧ Snap w (((w6.alloc (.cells #[.string (nName F N a), .string (nName F N b), .float .f64 (cents (uniN 100 30000 (rst seed l)))] 53)).setCells R (l * 3) [.string (nName F N a), .string (nName F N b), .float .f64 (cents (uniN 100 30000 (rst seed l)))]).setCell ⟨S, 1, none⟩ (.slice (some ⟨R, 0, none⟩) (l + 1) M)) S A R Q N P M (l + 1) ∧ NodesTo F N seed (((w6.alloc (.cells #[.string (nName F N a), .string (nName F N b), .float .f64 (cents (uniN 100 30000 (rst seed l)))] 53)).setCells R (l * 3) [.string (nName F N a), .string (nName F N b), .float .f64 (cents (uniN 100 30000 (rst seed l)))]).setCell ⟨S, 1, none⟩ (.slice (some ⟨R, 0, none⟩) (l + 1) M)) A (N + 1) ∧ RttTo F N seed (((w6.alloc (.cells #[.string (nName F N a), .string (nName F N b), .float .f64 (cents (uniN 100 30000 (rst seed l)))] 53)).setCells R (l * 3) [.string (nName F N a), .string (nName F N b), .float .f64 (cents (uniN 100 30000 (rst seed l)))]).setCell ⟨S, 1, none⟩ (.slice (some ⟨R, 0, none⟩) (l + 1) M)) R (l + 1)) := rtt_done hR6.out.2 hT6.out.1 hT6.out.2 hR6.out.1 hlM m1 n1 m3 n3 (.cells #[.string (nName F N a), .string (nName F N b), .float .f64 (cents (uniN 100 30000 (rst seed l)))] 53) [.string (nName F N a), .string (nName F N b), .float .f64 (cents (uniN 100 30000 (rst seed l)))] rfl (by rw [hpa]; rfl) (by rw [hpa]; rfl) rfl
        generalize ((w6.alloc (.cells #[.string (nName F N a), .string (nName F N b), .float .f64 (cents (uniN 100 30000 (rst seed l)))] 53)).setCells R (l * 3) [.string (nName F N a), .string (nName F N b), .float .f64 (cents (uniN 100 30000 (rst seed l)))]).setCell ⟨S, 1, none⟩ (.slice (some ⟨R, 0, none⟩) (l + 1) M) = w7 at hfin
        clear hap hHeld hd c16 hT6 hR6 hO6 rd c0 c1
        go_wp2
        go_roundg (N - b)
        case rel => exact ⟨b + 1, l + 1, by omega, by omega, by omega, by go_num, by have := HI.out.1; omega, fun h => pair_step1 hpa (by omega), fun h _ => pair_step2 hpa (by omega), hfin.out⟩
        case measure => omega
      · skip
        go_simp
        refine (hundredths_any p2 q2 (rst seed l) 100 30000 _ (by decide) (by decide) rd.out.1).mono ?_
        rintro e w6 ⟨rfl, hR6', hO6'⟩
        have hO6 : Hid (Only q2 wr.drew w6) := hO6'
        have hR6 : Hid (IsRand w6 p2 q2 (uniS 100 30000 (rst seed l)) ∧ Snap w w6 S A R Q N P M l) := ⟨hR6', rd.out.2.only hO6' hWq n1 n2 n3 n4⟩
        have hT6 : Hid (NodesTo F N seed w6 A (N + 1) ∧ RttTo F N seed w6 R l) := ⟨(HI.out.2.2.2.2.2.1.kept (w' := wr.drew) rfl).kept (hO6'.rest A n2 hltA'), (HI.out.2.2.2.2.2.2.kept (w' := wr.drew) rfl).kept (hO6'.rest R n3 rd.out.2.rR.1)⟩
        have c16 := hR6.out.2.c1
        clear hR6' hO6'
        dsimp only
        refine hK.out _ _ (trip_kept (w' := w6) hd (hO6.out.rest S n1 hltS') (hO6.out.rest A n2 hltA')) (fun hHeld => ?_)
        clear hK K
        try simp only [Act.put, List.setIfInBounds_toArray, List.set_cons_zero, List.set_cons_succ]
        refine wpAnyH_take (i := 23) (oi := { dst := some 141, op := Op.build 53 #[(0, Operand.tmp 130), (1, Operand.tmp 138), (2, Operand.tmp 140)], type := 53, pos := "gen.go:345", after := _, guard := none }) (v := ?v25) rfl (by kernel_rfl) (by kernel_rfl) (by kernel_rfl) (fun _ _ _ h => h) (Or.inl ⟨by rfl, ?hy25⟩) (by assumption) ?rest25
        case hy25 => (intro w hSw; (try dsimp only at hSw); go_simp <;> with_reducible rfl)
        try simp only [Act.put, List.setIfInBounds_toArray, List.set_cons_zero, List.set_cons_succ]
        refine wpAnyH_ready (rs := [4, 24]) (by kernel_rfl) (by simp) ?_
        refine AllReadyH.cons rfl (fun K hK => ?_) (AllReadyH.cons rfl (fun K hK => ?_) AllReadyH.nil)
        · go_simp
          refine hK.out _ _ (hHeld) (fun hHeld => ?_)
          clear hK K
          try simp only [Act.put, List.setIfInBounds_toArray, List.set_cons_zero, List.set_cons_succ]
          refine wpAnyH_ready (rs := [24]) (by kernel_rfl) (by simp) ?_
          refine AllReadyH.cons rfl (fun K hK => ?_) AllReadyH.nil
          go_simp
          refine hK.out _ _ (trip_alloc hHeld _) (fun hHeld => ?_)
          clear hK K
          try simp only [Act.put, List.setIfInBounds_toArray, List.set_cons_zero, List.set_cons_succ]
          refine wpAnyH_ready (rs := [25]) (by kernel_rfl) (by simp) ?_
          refine AllReadyH.cons (o := { dst := some 143, op := Op.call { callee := Callee.builtin Builtin.append, args := #[Operand.tmp 122, Operand.tmp 142], argTypes := #[29, 29] }, type := 29, pos := "gen.go:345", after := _, guard := none }) rfl (fun K hK => ?_) AllReadyH.nil
          refine step_rtt (by rfl) _ _ (by rfl) R l M (by rfl) (nName F N a) (nName F N b) (cents (uniN 100 30000 (rst seed l))) (by rfl) hR6.out.2.rR hlM ?_
          have hap := after_app hR6.out.2 (.cells #[.string (nName F N a), .string (nName F N b), .float .f64 (cents (uniN 100 30000 (rst seed l)))] 53) [.string (nName F N a), .string (nName F N b), .float .f64 (cents (uniN 100 30000 (rst seed l)))]
          refine hK.out _ _ (trip_set _ _ _ hHeld hSR hAR) (fun hHeld => ?_)
          clear hK K
          try simp only [Act.put, List.setIfInBounds_toArray, List.set_cons_zero, List.set_cons_succ]
          refine wpAnyH_take (i := 26) (oi := { dst := some 144, op := Op.nilCheck (Operand.tmp 118), type := 0, pos := "gen.go:345", after := _, guard := none }) (v := ?v26) rfl (by kernel_rfl) (by kernel_rfl) (by kernel_rfl) (fun _ _ _ h => h) (Or.inl ⟨by rfl, ?hy26⟩) (by assumption) ?rest26
          case hy26 => (intro w hSw; (try dsimp only at hSw); go_simp <;> with_reducible rfl)
          try simp only [Act.put, List.setIfInBounds_toArray, List.set_cons_zero, List.set_cons_succ]
          refine wpAnyH_take (i := 27) (oi := { dst := some 145, op := Op.fieldAddr 35 (Operand.tmp 144) 1, type := 0, pos := "gen.go:345", after := _, guard := none }) (v := ?v27) rfl (by kernel_rfl) (by kernel_rfl) (by kernel_rfl) (fun _ _ _ h => h) (Or.inl ⟨by rfl, ?hy27⟩) (by assumption) ?rest27
          case hy27 => (intro w hSw; (try dsimp only at hSw); go_simp <;> with_reducible rfl)
          try simp only [Act.put, List.setIfInBounds_toArray, List.set_cons_zero, List.set_cons_succ]
          refine wpAnyH_ready (rs := [28]) (by kernel_rfl) (by simp) ?_
          refine AllReadyH.cons rfl (fun K hK => ?_) AllReadyH.nil
          go_simp
          refine hK.out _ _ (trip_head _ hHeld hSA) (fun hHeld => ?_)
          clear hK K
          try simp only [Act.put, List.setIfInBounds_toArray, List.set_cons_zero, List.set_cons_succ]
          refine wpAnyH_done (by kernel_rfl) ?_ _
          refine NoPanic.normal ?_
          have hfin : Hid (IsRand (((w6.alloc (.cells #[.string (nName F N a), .string (nName F N b), .float .f64 (cents (uniN 100 30000 (rst seed l)))] 53)).setCells R (l * 3) [.string (nName F N a), .string (nName F N b), .float .f64 (cents (uniN 100 30000 (rst seed l)))]).setCell ⟨S, 1, none⟩ (.slice (some ⟨R, 0, none⟩) (l + 1) M)) p2 q2 (rst seed (l + 1)) ∧ Snap w (((w6.alloc (.cells #[.string (nName F N a), .string (nName F N b), .float .f64 (cents (uniN 100 30000 (rst seed l)))] 53)).setCells R (l * 3) [.string (nName F N a), .string (nName F N b), .float .f64 (cents (uniN 100 30000 (rst seed l)))]).setCell ⟨S, 1, none⟩ (.slice (some ⟨R, 0, none⟩) (l + 1) M)) S A R Q N P M (l + 1) ∧ NodesTo F N seed (((w6.alloc (.cells #[.string (nName F N a), .string (nName F N b), .float .f64 (cents (uniN 100 30000 (rst seed l)))] 53)).setCells R (l * 3) [.string (nName F N a), .string (nName F N b), .float .f64 (cents (uniN 100 30000 (rst seed l)))]).setCell ⟨S, 1, none⟩ (.slice (some ⟨R, 0, none⟩) (l + 1) M)) A (N + 1) ∧ RttTo F N seed (((w6.alloc (.cells #[.string (nName F N a), .string (nName F N b), .float .f64 (cents (uniN 100 30000 (rst seed l)))] 53)).setCells R (l * 3) [.string (nName F N a), .string (nName F N b), .float .f64 (cents (uniN 100 30000 (rst seed l)))]).setCell ⟨S, 1, none⟩ (.slice (some ⟨R, 0, none⟩) (l + 1) M)) R (l + 1)) := rtt_done hR6.out.2 hT6.out.1 hT6.out.2 hR6.out.1 hlM m1 n1 m3 n3 (.cells #[.string (nName F N a), .string (nName F N b), .float .f64 (cents (uniN 100 30000 (rst seed l)))] 53) [.string (nName F N a), .string (nName F N b), .float .f64 (cents (uniN 100 30000 (rst seed l)))] rfl (by rw [hpa]; rfl) (by rw [hpa]; rfl) rfl
          generalize ((w6.alloc (.cells #[.string (nName F N a), .string (nName F N b), .float .f64 (cents (uniN 100 30000 (rst seed l)))] 53)).setCells R (l * 3) [.string (nName F N a), .string (nName F N b), .float .f64 (cents (uniN 100 30000 (rst seed l)))]).setCell ⟨S, 1, none⟩ (.slice (some ⟨R, 0, none⟩) (l + 1) M) = w7 at hfin
          clear hap hHeld hd c16 hT6 hR6 hO6 rd c0 c1
          go_wp2
          go_roundg (N - b)
          case rel => exact ⟨b + 1, l + 1, by omega, by omega, by omega, by go_num, by have := HI.out.1; omega, fun h => pair_step1 hpa (by omega), fun h _ => pair_step2 hpa (by omega), hfin.out⟩
          case measure => omega
        · have c17 : ∀ o, (w6.alloc o).cell? ⟨S, 1, none⟩ = some (.slice (some ⟨R, 0, none⟩) l M) := fun o => ((Below.refl w6.heap.size w6).alloc (Nat.le_refl _) o).cell (p := ⟨S, 1, none⟩) hR6.out.2.lt |>.trans c16
          go_simp
          refine hK.out _ _ (trip_alloc hHeld _) (fun hHeld => ?_)
          clear hK K
          try simp only [Act.put, List.setIfInBounds_toArray, List.set_cons_zero, List.set_cons_succ]
          refine wpAnyH_ready (rs := [4]) (by kernel_rfl) (by simp) ?_
          refine AllReadyH.cons rfl (fun K hK => ?_) AllReadyH.nil
          go_simp
          refine hK.out _ _ (hHeld) (fun hHeld => ?_)
          clear hK K
          try simp only [Act.put, List.setIfInBounds_toArray, List.set_cons_zero, List.set_cons_succ]
          clear c17
          refine wpAnyH_ready (rs := [25]) (by kernel_rfl) (by simp) ?_
          refine AllReadyH.cons (o := { dst := some 143, op := Op.call { callee := Callee.builtin Builtin.append, args := #[Operand.tmp 122, Operand.tmp 142], argTypes := #[29, 29] }, type := 29, pos := "gen.go:345", after := _, guard := none }) rfl (fun K hK => ?_) AllReadyH.nil
          refine step_rtt (by rfl) _ _ (by rfl) R l M (by rfl) (nName F N a) (nName F N b) (cents (uniN 100 30000 (rst seed l))) (by rfl) hR6.out.2.rR hlM ?_
          have hap := after_app hR6.out.2 (.cells #[.string (nName F N a), .string (nName F N b), .float .f64 (cents (uniN 100 30000 (rst seed l)))] 53) [.string (nName F N a), .string (nName F N b), .float .f64 (cents (uniN 100 30000 (rst seed l)))]
          refine hK.out _ _ (trip_set _ _ _ hHeld hSR hAR) (fun hHeld => ?_)
          clear hK K
          try simp only [Act.put, List.setIfInBounds_toArray, List.set_cons_zero, List.set_cons_succ]
          refine wpAnyH_take (i := 26) (oi := { dst := some 144, op := Op.nilCheck (Operand.tmp 118), type := 0, pos := "gen.go:345", after := _, guard := none }) (v := ?v28) rfl (by kernel_rfl) (by kernel_rfl) (by kernel_rfl) (fun _ _ _ h => h) (Or.inl ⟨by rfl, ?hy28⟩) (by assumption) ?rest28
          case hy28 => (intro w hSw; (try dsimp only at hSw); go_simp <;> with_reducible rfl)
          try simp only [Act.put, List.setIfInBounds_toArray, List.set_cons_zero, List.set_cons_succ]
          refine wpAnyH_take (i := 27) (oi := { dst := some 145, op := Op.fieldAddr 35 (Operand.tmp 144) 1, type := 0, pos := "gen.go:345", after := _, guard := none }) (v := ?v29) rfl (by kernel_rfl) (by kernel_rfl) (by kernel_rfl) (fun _ _ _ h => h) (Or.inl ⟨by rfl, ?hy29⟩) (by assumption) ?rest29
          case hy29 => (intro w hSw; (try dsimp only at hSw); go_simp <;> with_reducible rfl)
          try simp only [Act.put, List.setIfInBounds_toArray, List.set_cons_zero, List.set_cons_succ]
          refine wpAnyH_ready (rs := [28]) (by kernel_rfl) (by simp) ?_
          refine AllReadyH.cons rfl (fun K hK => ?_) AllReadyH.nil
          go_simp
          refine hK.out _ _ (trip_head _ hHeld hSA) (fun hHeld => ?_)
          clear hK K
          try simp only [Act.put, List.setIfInBounds_toArray, List.set_cons_zero, List.set_cons_succ]
          refine wpAnyH_done (by kernel_rfl) ?_ _
          refine NoPanic.normal ?_
          have hfin : Hid (IsRand (((w6.alloc (.cells #[.string (nName F N a), .string (nName F N b), .float .f64 (cents (uniN 100 30000 (rst seed l)))] 53)).setCells R (l * 3) [.string (nName F N a), .string (nName F N b), .float .f64 (cents (uniN 100 30000 (rst seed l)))]).setCell ⟨S, 1, none⟩ (.slice (some ⟨R, 0, none⟩) (l + 1) M)) p2 q2 (rst seed (l + 1)) ∧ Snap w (((w6.alloc (.cells #[.string (nName F N a), .string (nName F N b), .float .f64 (cents (uniN 100 30000 (rst seed l)))] 53)).setCells R (l * 3) [.string (nName F N a), .string (nName F N b), .float .f64 (cents (uniN 100 30000 (rst seed l)))]).setCell ⟨S, 1, none⟩ (.slice (some ⟨R, 0, none⟩) (l + 1) M)) S A R Q N P M (l + 1) ∧ NodesTo F N seed (((w6.alloc (.cells #[.string (nName F N a), .string (nName F N b), .float .f64 (cents (uniN 100 30000 (rst seed l)))] 53)).setCells R (l * 3) [.string (nName F N a), .string (nName F N b), .float .f64 (cents (uniN 100 30000 (rst seed l)))]).setCell ⟨S, 1, none⟩ (.slice (some ⟨R, 0, none⟩) (l + 1) M)) A (N + 1) ∧ RttTo F N seed (((w6.alloc (.cells #[.string (nName F N a), .string (nName F N b), .float .f64 (cents (uniN 100 30000 (rst seed l)))] 53)).setCells R (l * 3) [.string (nName F N a), .string (nName F N b), .float .f64 (cents (uniN 100 30000 (rst seed l)))]).setCell ⟨S, 1, none⟩ (.slice (some ⟨R, 0, none⟩) (l + 1) M)) R (l + 1)) := rtt_done hR6.out.2 hT6.out.1 hT6.out.2 hR6.out.1 hlM m1 n1 m3 n3 (.cells #[.string (nName F N a), .string (nName F N b), .float .f64 (cents (uniN 100 30000 (rst seed l)))] 53) [.string (nName F N a), .string (nName F N b), .float .f64 (cents (uniN 100 30000 (rst seed l)))] rfl (by rw [hpa]; rfl) (by rw [hpa]; rfl) rfl
          generalize ((w6.alloc (.cells #[.string (nName F N a), .string (nName F N b), .float .f64 (cents (uniN 100 30000 (rst seed l)))] 53)).setCells R (l * 3) [.string (nName F N a), .string (nName F N b), .float .f64 (cents (uniN 100 30000 (rst seed l)))]).setCell ⟨S, 1, none⟩ (.slice (some ⟨R, 0, none⟩) (l + 1) M) = w7 at hfin
          clear hap hHeld hd c16 hT6 hR6 hO6 rd c0 c1
          go_wp2
          go_roundg (N - b)
          case rel => exact ⟨b + 1, l + 1, by omega, by omega, by omega, by go_num, by have := HI.out.1; omega, fun h => pair_step1 hpa (by omega), fun h _ => pair_step2 hpa (by omega), hfin.out⟩
          case measure => omega
    · obtain rfl : b = N + 1 := by omega
      have hblt' : decide ((N : Int) + 1 < (N : Int) + 1) = false := decide_eq_false (by omega)
      go_wp2
      apply hK.out _ l
      obtain ⟨i1, i2, i3, i4⟩ := HI.out
      exact ⟨i1, fun h => by first | exact i3 rfl h | exact i3 trivial h, i4⟩
end Go.Proofs.Qxb6608650aFmt
