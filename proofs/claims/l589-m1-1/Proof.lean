import JvmDerived
import JvmDerived.Pilot.@@N@@Statement
import JvmDerived.Pilot.@@N@@Code
set_option linter.unusedVariables false
set_option linter.unusedSimpArgs false
namespace Jvm.Pilot.@@N@@
open Jvm Jvm.ClassFile Sem Op Lib Jvm.Free Jvm.Stand Jvm.LawKit Jvm.RoadKit Bundle Jvm.Pilot.@@N@@.Jvm.D
theorem own_irem (x y : Int32) (d : Int) (hy : y.toInt = d) (hd1 : y ≠ -1) (hd : 0 < d) (h0 : 0 ≤ x.toInt) : (x - (x / y) * y).toInt = x.toInt % d := by
  have h1 := (c_idiv x y d hy hd1).1 h0
  have h2 := c_imul (x / y) y
  have h3 := c_isub x ((x / y) * y)
  have r := rng32 (x - (x / y) * y)
  have ry := rng32 y
  have e := Int.emod_add_mul_ediv x.toInt d
  have m0 := Int.emod_nonneg x.toInt (by omega : d ≠ 0)
  have m1 := Int.emod_lt_of_pos x.toInt hd
  rw [h1, hy, Int.mul_comm] at h2
  omega
def own_abs (q1 : Int64) : Int64 := (if q1 < (0 : Int64) then (-q1) else q1)
theorem d3_0 : decode jdk_29_method_61_code 0 = .ok (.lload_n 0, 1) := by decide +kernel
theorem d3_1 : decode jdk_29_method_61_code 1 = .ok (.lconst 0, 1) := by decide +kernel
theorem d3_2 : decode jdk_29_method_61_code 2 = .ok (.lcmp, 1) := by decide +kernel
theorem d3_3 : decode jdk_29_method_61_code 3 = .ok (.ifCond .ge 8, 3) := by decide +kernel
theorem d3_6 : decode jdk_29_method_61_code 6 = .ok (.lload_n 0, 1) := by decide +kernel
theorem d3_7 : decode jdk_29_method_61_code 7 = .ok (.lneg, 1) := by decide +kernel
theorem d3_8 : decode jdk_29_method_61_code 8 = .ok (.goto 4, 3) := by decide +kernel
theorem d3_11 : decode jdk_29_method_61_code 11 = .ok (.lload_n 0, 1) := by decide +kernel
theorem d3_12 : decode jdk_29_method_61_code 12 = .ok (.lreturn, 1) := by decide +kernel
theorem ef_abs (m : MethodId) (x0 : Int64) : entryFrame m #[(.long x0)] 2 = mkF m 0 #[.val (.long x0), .second] [] := by first | (simp [entryFrame, mkF, argsToLocals, Value.category]; done) | rfl
def Qabs (Z : State) (q1 : Int64) (h0 : Heap) (n0 : Nat) (v : Option Value) (h : Heap) (L : List Loc) : Prop := v = some (.long (own_abs q1)) ∧ Fr n0 L ∧ h = h0
set_option maxRecDepth 65536 in
set_option maxHeartbeats 40000000 in
theorem rm_abs (l : Launch) (Z : State) (a0 : Array Value) (hw : ∀ d ∈ tables_1, d.before a0 Z = true) (ws : List Jvm.Cond) (q1 : Int64) (h0 : Heap) (n0 : Nat) (Z0 : n0 ≤ h0.size) :
    MetFree l (⟨"java/lang/Math", "abs", "(J)J"⟩ : MethodName) (head1 (Jvm.Cond.code (⟨"java/lang/Math", "abs", "(J)J"⟩ : MethodName) jdk_29_method_61_code 2 (some .long) :: ws) ({ frames := 0, cells := 0, slots := 0, locals := 0 } : Room)) (fun a U => a = #[(.long q1)] ∧ Z.Warmed39 U.vm ∧ U.heap = h0) (fun _ _ _ _ _ => True) (fun _ U o U' => ∃ v L, o = .returned v ∧ Qabs Z q1 h0 n0 v U'.heap L ∧ FrameEnd U o U' L ({ frames := 0, cells := 0, slots := 0, locals := 0 } : Room).cells ({ frames := 0, cells := 0, slots := 0, locals := 0 } : Room).slots) := by
  refine MetFree.of_bodySF (Jvm.Free.JP.mathPlain rfl (by decide +kernel)) hisR ?_
  intro p e s m args below meth c s₁ Bd hml0 hP hK
  obtain ⟨rfl, hZ, hh⟩ := hP
  have hx := Bd.exec
  have hby := Bd.bytes
  have hml : c.maxLocals = 2 := hml0
  have hown : s.vm.findClass "java/lang/Math" = some m.cls := findClass_of_methodNamed Bd.named
  have hnm := (name_of_methodNamed Bd.named Bd.method).1
  have X0 : Stand p l e ({ frames := 0, cells := 0, slots := 0, locals := 0 } : Room) s m #[(.long q1)] below meth c s₁ [] 0 0 := Stand.of_body Bd
  have e0 : s₁.heap = h0 := by rw [← hh, Bd.state]; rfl
  have N0 := Fr.nil n0
  have k0 : ∀ t, Steps p.tables e below (s₁.setTop (mkF m 0 #[.val (.long q1), .second] [])) t → Steps p.tables e below (s₁.setTop (entryFrame m #[(.long q1)] 2)) t := fun t k => castTop (ef_abs m q1) k
  have k1 : ∀ t, Steps p.tables e below (s₁.setTop (mkF m 3 #[.val (.long q1), .second] [(.int (lcmpW q1 (0 : Int64)))])) t → Steps p.tables e below (s₁.setTop (entryFrame m #[(.long q1)] 2)) t := fun t k => k0 t (by
    show Steps p.tables e below (s₁.setTop (mkF m 0 #[.val (.long q1), .second] [])) _
    refine XS.lloadN X0.here hx rfl (hb hby d3_0) rfl ?_
    show Steps p.tables e below (s₁.setTop (mkF m 1 #[.val (.long q1), .second] [(.long q1)])) _
    refine XS.lconst X0.here hx rfl (hb hby d3_1) ?_
    show Steps p.tables e below (s₁.setTop (mkF m 2 #[.val (.long q1), .second] [(.long (0 : Int64)), (.long q1)])) _
    refine XS.lcmp X0.here hx rfl (hb hby d3_2) rfl ?_
    exact k)
  by_cases cd3 : q1 < (0 : Int64)
  ·
    have hv : own_abs q1 = (-q1) := (if_pos cd3)
    have k3 : ∀ t, Steps p.tables e below (s₁.setTop (mkF m 12 #[.val (.long q1), .second] [(.long (-q1))])) t → Steps p.tables e below (s₁.setTop (entryFrame m #[(.long q1)] 2)) t := fun t k => k1 t (by
      show Steps p.tables e below (s₁.setTop (mkF m 3 #[.val (.long q1), .second] [(.int (lcmpW q1 (0 : Int64)))])) _
      refine XS.ifNo X0.here hx rfl (hb hby d3_3) rfl ((if0 _ _).trans (tlt ((lw_lt q1 (0 : Int64)).mpr cd3)).2.1) ?_
      show Steps p.tables e below (s₁.setTop (mkF m 6 #[.val (.long q1), .second] [])) _
      refine XS.lloadN X0.here hx rfl (hb hby d3_6) rfl ?_
      show Steps p.tables e below (s₁.setTop (mkF m 7 #[.val (.long q1), .second] [(.long q1)])) _
      refine XS.lneg X0.here hx rfl (hb hby d3_7) rfl ?_
      show Steps p.tables e below (s₁.setTop (mkF m 8 #[.val (.long q1), .second] [(.long (-q1))])) _
      refine XS.goto X0.here hx rfl (pc0 := 8) (pc' := 12) rfl (hb hby d3_8) (by decide) (by decide) ?_
      exact k)
    obtain ⟨fs, hr, hrun, hended, hW, hsame⟩ := X0.leave (v := some (.long (-q1))) (fun h => by rw [Bd.returns] at h; cases h)
    refine ⟨_, _, k3 _ ?_, hrun, hended, _, _, rfl, ?_, ⟨_, rfl⟩, hW, hsame.mono (by decide) (by decide)⟩
    · show Steps p.tables e below (s₁.setTop (mkF m 12 #[.val (.long q1), .second] [(.long (-q1))])) _
      jvm_step X0.here [X0.here.top, hx, (hb hby d3_12), X0.method', Bd.returns, narrow]
      first | (intro acts; rw [hr _ acts rfl rfl rfl]) | rw [hr _ _ rfl rfl rfl]
      exact Steps.refl _
    ·
      show Qabs _ q1 h0 n0 _ s₁.heap _
      rw [e0]
      exact ⟨by rw [hv], N0, rfl⟩
  ·
    have hv : own_abs q1 = q1 := (if_neg cd3)
    have k5 : ∀ t, Steps p.tables e below (s₁.setTop (mkF m 12 #[.val (.long q1), .second] [(.long q1)])) t → Steps p.tables e below (s₁.setTop (entryFrame m #[(.long q1)] 2)) t := fun t k => k1 t (by
      show Steps p.tables e below (s₁.setTop (mkF m 3 #[.val (.long q1), .second] [(.int (lcmpW q1 (0 : Int64)))])) _
      refine XS.ifYes X0.here hx rfl (pc0 := 3) (pc' := 11) rfl (hb hby d3_3) rfl ((if0 _ _).trans (flt (fun q => cd3 ((lw_lt q1 (0 : Int64)).mp q))).2.1) (by decide) (by decide) ?_
      show Steps p.tables e below (s₁.setTop (mkF m 11 #[.val (.long q1), .second] [])) _
      refine XS.lloadN X0.here hx rfl (hb hby d3_11) rfl ?_
      exact k)
    obtain ⟨fs, hr, hrun, hended, hW, hsame⟩ := X0.leave (v := some (.long q1)) (fun h => by rw [Bd.returns] at h; cases h)
    refine ⟨_, _, k5 _ ?_, hrun, hended, _, _, rfl, ?_, ⟨_, rfl⟩, hW, hsame.mono (by decide) (by decide)⟩
    · show Steps p.tables e below (s₁.setTop (mkF m 12 #[.val (.long q1), .second] [(.long q1)])) _
      jvm_step X0.here [X0.here.top, hx, (hb hby d3_12), X0.method', Bd.returns, narrow]
      first | (intro acts; rw [hr _ acts rfl rfl rfl]) | rw [hr _ _ rfl rfl rfl]
      exact Steps.refl _
    ·
      show Qabs _ q1 h0 n0 _ s₁.heap _
      rw [e0]
      exact ⟨by rw [hv], N0, rfl⟩
theorem pd__J_J : parseMethodDescriptor "(J)J" = some ⟨[.long], some .long⟩ := by decide +kernel
theorem d2_0 : decode jdk_29_method_30_code 0 = .ok (.lload_n 0, 1) := by decide +kernel
theorem d2_1 : decode jdk_29_method_30_code 1 = .ok (.lload_n 2, 1) := by decide +kernel
theorem d2_2 : decode jdk_29_method_30_code 2 = .ok (.lmul, 1) := by decide +kernel
theorem d2_3 : decode jdk_29_method_30_code 3 = .ok (.lstore 4, 2) := by decide +kernel
theorem d2_5 : decode jdk_29_method_30_code 5 = .ok (.lload_n 0, 1) := by decide +kernel
theorem d2_6 : decode jdk_29_method_30_code 6 = .ok (.invokestatic 122, 3) := by decide +kernel
theorem d2_9 : decode jdk_29_method_30_code 9 = .ok (.lstore 6, 2) := by decide +kernel
theorem d2_11 : decode jdk_29_method_30_code 11 = .ok (.lload_n 2, 1) := by decide +kernel
theorem d2_12 : decode jdk_29_method_30_code 12 = .ok (.invokestatic 122, 3) := by decide +kernel
theorem d2_15 : decode jdk_29_method_30_code 15 = .ok (.lstore 8, 2) := by decide +kernel
theorem d2_17 : decode jdk_29_method_30_code 17 = .ok (.lload 6, 2) := by decide +kernel
theorem d2_19 : decode jdk_29_method_30_code 19 = .ok (.lload 8, 2) := by decide +kernel
theorem d2_21 : decode jdk_29_method_30_code 21 = .ok (.lor, 1) := by decide +kernel
theorem d2_22 : decode jdk_29_method_30_code 22 = .ok (.bipush 31, 2) := by decide +kernel
theorem d2_24 : decode jdk_29_method_30_code 24 = .ok (.lushr, 1) := by decide +kernel
theorem d2_25 : decode jdk_29_method_30_code 25 = .ok (.lconst 0, 1) := by decide +kernel
theorem d2_26 : decode jdk_29_method_30_code 26 = .ok (.lcmp, 1) := by decide +kernel
theorem d2_27 : decode jdk_29_method_30_code 27 = .ok (.ifCond .eq 44, 3) := by decide +kernel
theorem d2_30 : decode jdk_29_method_30_code 30 = .ok (.lload_n 2, 1) := by decide +kernel
theorem d2_31 : decode jdk_29_method_30_code 31 = .ok (.lconst 0, 1) := by decide +kernel
theorem d2_32 : decode jdk_29_method_30_code 32 = .ok (.lcmp, 1) := by decide +kernel
theorem d2_33 : decode jdk_29_method_30_code 33 = .ok (.ifCond .eq 12, 3) := by decide +kernel
theorem d2_36 : decode jdk_29_method_30_code 36 = .ok (.lload 4, 2) := by decide +kernel
theorem d2_38 : decode jdk_29_method_30_code 38 = .ok (.lload_n 2, 1) := by decide +kernel
theorem d2_39 : decode jdk_29_method_30_code 39 = .ok (.ldiv, 1) := by decide +kernel
theorem d2_40 : decode jdk_29_method_30_code 40 = .ok (.lload_n 0, 1) := by decide +kernel
theorem d2_41 : decode jdk_29_method_30_code 41 = .ok (.lcmp, 1) := by decide +kernel
theorem d2_42 : decode jdk_29_method_30_code 42 = .ok (.ifCond .ne 19, 3) := by decide +kernel
theorem d2_45 : decode jdk_29_method_30_code 45 = .ok (.lload_n 0, 1) := by decide +kernel
theorem d2_46 : decode jdk_29_method_30_code 46 = .ok (.ldc2_w 128, 3) := by decide +kernel
theorem d2_49 : decode jdk_29_method_30_code 49 = .ok (.lcmp, 1) := by decide +kernel
theorem d2_50 : decode jdk_29_method_30_code 50 = .ok (.ifCond .ne 21, 3) := by decide +kernel
theorem d2_71 : decode jdk_29_method_30_code 71 = .ok (.lload 4, 2) := by decide +kernel
theorem d2_73 : decode jdk_29_method_30_code 73 = .ok (.lreturn, 1) := by decide +kernel
theorem ef_mulx (m : MethodId) (x0 : Int64) (x1 : Int64) : entryFrame m #[(.long x0), (.long x1)] 10 = mkF m 0 #[.val (.long x0), .second, .val (.long x1), .second, .unset, .unset, .unset, .unset, .unset, .unset] [] := by first | (simp [entryFrame, mkF, argsToLocals, Value.category]; done) | rfl
def Qmulx (Z : State) (q1 : Int64) (q2 : Int64) (h0 : Heap) (n0 : Nat) (v : Option Value) (h : Heap) (L : List Loc) : Prop := v = some (.long (q1 * q2)) ∧ Fr n0 L ∧ h = h0
set_option maxRecDepth 65536 in
set_option maxHeartbeats 40000000 in
theorem rm_mulx (l : Launch) (Z : State) (a0 : Array Value) (hw : ∀ d ∈ tables_1, d.before a0 Z = true) (ws : List Jvm.Cond) (q1 : Int64) (q2 : Int64) (h0 : Heap) (n0 : Nat) (Z0 : n0 ≤ h0.size) (hm : q2 = (0 : Int64) ∨ (q1 * q2) / q2 = q1) (hq1 : ¬ q1 = (-9223372036854775808 : Int64)) :
    MetFree l (⟨"java/lang/Math", "multiplyExact", "(JJ)J"⟩ : MethodName) (head1 (Jvm.Cond.code (⟨"java/lang/Math", "multiplyExact", "(JJ)J"⟩ : MethodName) jdk_29_method_30_code 10 (some .long) :: ws) ({ frames := 1, cells := 0, slots := 0, locals := 13 } : Room)) (fun a U => a = #[(.long q1), (.long q2)] ∧ Z.Warmed39 U.vm ∧ U.heap = h0) (fun _ _ _ _ _ => True) (fun _ U o U' => ∃ v L, o = .returned v ∧ Qmulx Z q1 q2 h0 n0 v U'.heap L ∧ FrameEnd U o U' L ({ frames := 1, cells := 0, slots := 0, locals := 13 } : Room).cells ({ frames := 1, cells := 0, slots := 0, locals := 13 } : Room).slots) := by
  refine MetFree.of_bodySF (Jvm.Free.JP.mathPlain rfl (by decide +kernel)) hisR ?_
  intro p e s m args below meth c s₁ Bd hml0 hP hK
  obtain ⟨rfl, hZ, hh⟩ := hP
  have hx := Bd.exec
  have hby := Bd.bytes
  have hml : c.maxLocals = 10 := hml0
  have hown : s.vm.findClass "java/lang/Math" = some m.cls := findClass_of_methodNamed Bd.named
  have hnm := (name_of_methodNamed Bd.named Bd.method).1
  have X0 : Stand p l e ({ frames := 1, cells := 0, slots := 0, locals := 13 } : Room) s m #[(.long q1), (.long q2)] below meth c s₁ [] 0 0 := Stand.of_body Bd
  have e0 : s₁.heap = h0 := by rw [← hh, Bd.state]; rfl
  have N0 := Fr.nil n0
  have k0 : ∀ t, Steps p.tables e below (s₁.setTop (mkF m 0 #[.val (.long q1), .second, .val (.long q2), .second, .unset, .unset, .unset, .unset, .unset, .unset] [])) t → Steps p.tables e below (s₁.setTop (entryFrame m #[(.long q1), (.long q2)] 10)) t := fun t k => castTop (ef_mulx m q1 q2) k
  obtain ⟨_, _, ⟨T1, L1, kk1, n1⟩, -, X1, ⟨Lc1, hQ1, l1, y1, z1⟩, st1⟩ := Jvm.LawKit.callS X0 hx (y := (⟨"java/lang/Math", "abs", "(J)J"⟩ : MethodName)) hown (mvT hZ (hw _ (List.mem_of_getElem? (i := 11) rfl))) (mvT hZ (hw _ (List.mem_of_getElem? (i := 12) rfl))) (mvT hZ (hw _ (List.mem_of_getElem? (i := 9) rfl))) (mvT hZ (hw _ (List.mem_of_getElem? (i := 13) rfl))) (by decide) (backOf (W := 0) (rm_abs l Z a0 hw [] q1 h0 n0 Z0) hZ (hw _ (List.mem_of_getElem? (i := 13) rfl)) (hw _ (List.mem_of_getElem? (i := 9) rfl)) (by decide) (by decide)) (g := (mkF m 6 #[.val (.long q1), .second, .val (.long q2), .second, .val (.long (q1 * q2)), .second, .unset, .unset, .unset, .unset] [(.long q1)])) rfl (by rw [hml]; rfl) (argsL := [(.long q1)]) (rest := []) (lenOf pd__J_J rfl) rfl (by show 2 * 0 + _ ≤ _; exact Nat.le_of_eq rfl) (hb hby d2_6) (fun _ _ => ⟨rfl, e0, (by decide : 0 + 0 ≤ _), (by decide : 0 + 0 ≤ _)⟩)
  dsimp only [Pt.U, Pt.locs, Pt.cells, Pt.slots] at X1 l1 y1 z1 st1 hQ1
  subst l1 y1 z1
  obtain ⟨rfl, N1q, qa⟩ := hQ1
  have N1 := Fr.app N0 N1q
  obtain ⟨_, _, ⟨T2, L2, kk2, n2⟩, -, X2, ⟨Lc2, hQ2, l2, y2, z2⟩, st2⟩ := Jvm.LawKit.callS X1 hx (y := (⟨"java/lang/Math", "abs", "(J)J"⟩ : MethodName)) hown (mvT hZ (hw _ (List.mem_of_getElem? (i := 11) rfl))) (mvT hZ (hw _ (List.mem_of_getElem? (i := 12) rfl))) (mvT hZ (hw _ (List.mem_of_getElem? (i := 9) rfl))) (mvT hZ (hw _ (List.mem_of_getElem? (i := 13) rfl))) (by decide) (backOf (W := 0) (rm_abs l Z a0 hw [] q2 h0 n0 Z0) hZ (hw _ (List.mem_of_getElem? (i := 13) rfl)) (hw _ (List.mem_of_getElem? (i := 9) rfl)) (by decide) (by decide)) (g := (mkF m 12 #[.val (.long q1), .second, .val (.long q2), .second, .val (.long (q1 * q2)), .second, .val (.long (own_abs q1)), .second, .unset, .unset] [(.long q2)])) rfl (by rw [hml]; rfl) (argsL := [(.long q2)]) (rest := []) (lenOf pd__J_J rfl) rfl (by show 2 * 0 + _ ≤ _; exact Nat.le_of_eq rfl) (hb hby d2_12) (fun _ _ => ⟨rfl, qa, (by decide : 0 + 0 ≤ _), (by decide : 0 + 0 ≤ _)⟩)
  dsimp only [Pt.U, Pt.locs, Pt.cells, Pt.slots] at X2 l2 y2 z2 st2 hQ2
  subst l2 y2 z2
  obtain ⟨rfl, N2q, qb⟩ := hQ2
  have N2 := Fr.app N1 N2q
  have k3 : ∀ t, Steps p.tables e below (T2.setTop (mkF m 27 #[.val (.long q1), .second, .val (.long q2), .second, .val (.long (q1 * q2)), .second, .val (.long (own_abs q1)), .second, .val (.long (own_abs q2)), .second] [(.int (lcmpW ((((own_abs q1) ||| (own_abs q2)).toUInt64 >>> ((31 : Int32) &&& 0x3f).toInt64.toUInt64).toInt64) (0 : Int64)))])) t → Steps p.tables e below (s₁.setTop (entryFrame m #[(.long q1), (.long q2)] 10)) t := fun t k => k0 t (by
    show Steps p.tables e below (s₁.setTop (mkF m 0 #[.val (.long q1), .second, .val (.long q2), .second, .unset, .unset, .unset, .unset, .unset, .unset] [])) _
    refine XS.lloadN X0.here hx rfl (hb hby d2_0) rfl ?_
    show Steps p.tables e below (s₁.setTop (mkF m 1 #[.val (.long q1), .second, .val (.long q2), .second, .unset, .unset, .unset, .unset, .unset, .unset] [(.long q1)])) _
    refine XS.lloadN X0.here hx rfl (hb hby d2_1) rfl ?_
    show Steps p.tables e below (s₁.setTop (mkF m 2 #[.val (.long q1), .second, .val (.long q2), .second, .unset, .unset, .unset, .unset, .unset, .unset] [(.long q2), (.long q1)])) _
    refine XS.lmul X0.here hx rfl (hb hby d2_2) rfl ?_
    show Steps p.tables e below (s₁.setTop (mkF m 3 #[.val (.long q1), .second, .val (.long q2), .second, .unset, .unset, .unset, .unset, .unset, .unset] [(.long (q1 * q2))])) _
    refine XS.lstore X0.here hx rfl (hb hby d2_3) rfl (l' := #[.val (.long q1), .second, .val (.long q2), .second, .val (.long (q1 * q2)), .second, .unset, .unset, .unset, .unset]) rfl ?_
    show Steps p.tables e below (s₁.setTop (mkF m 5 #[.val (.long q1), .second, .val (.long q2), .second, .val (.long (q1 * q2)), .second, .unset, .unset, .unset, .unset] [])) _
    refine XS.lloadN X0.here hx rfl (hb hby d2_5) rfl ?_
    show Steps p.tables e below (s₁.setTop (mkF m 6 #[.val (.long q1), .second, .val (.long q2), .second, .val (.long (q1 * q2)), .second, .unset, .unset, .unset, .unset] [(.long q1)])) _
    refine st1 _ ?_
    show Steps p.tables e below (T1.setTop (mkF m 9 #[.val (.long q1), .second, .val (.long q2), .second, .val (.long (q1 * q2)), .second, .unset, .unset, .unset, .unset] [(.long (own_abs q1))])) _
    refine XS.lstore X1.here hx rfl (hb hby d2_9) rfl (l' := #[.val (.long q1), .second, .val (.long q2), .second, .val (.long (q1 * q2)), .second, .val (.long (own_abs q1)), .second, .unset, .unset]) rfl ?_
    show Steps p.tables e below (T1.setTop (mkF m 11 #[.val (.long q1), .second, .val (.long q2), .second, .val (.long (q1 * q2)), .second, .val (.long (own_abs q1)), .second, .unset, .unset] [])) _
    refine XS.lloadN X1.here hx rfl (hb hby d2_11) rfl ?_
    show Steps p.tables e below (T1.setTop (mkF m 12 #[.val (.long q1), .second, .val (.long q2), .second, .val (.long (q1 * q2)), .second, .val (.long (own_abs q1)), .second, .unset, .unset] [(.long q2)])) _
    refine st2 _ ?_
    show Steps p.tables e below (T2.setTop (mkF m 15 #[.val (.long q1), .second, .val (.long q2), .second, .val (.long (q1 * q2)), .second, .val (.long (own_abs q1)), .second, .unset, .unset] [(.long (own_abs q2))])) _
    refine XS.lstore X2.here hx rfl (hb hby d2_15) rfl (l' := #[.val (.long q1), .second, .val (.long q2), .second, .val (.long (q1 * q2)), .second, .val (.long (own_abs q1)), .second, .val (.long (own_abs q2)), .second]) rfl ?_
    show Steps p.tables e below (T2.setTop (mkF m 17 #[.val (.long q1), .second, .val (.long q2), .second, .val (.long (q1 * q2)), .second, .val (.long (own_abs q1)), .second, .val (.long (own_abs q2)), .second] [])) _
    refine XS.lload X2.here hx rfl (hb hby d2_17) rfl ?_
    show Steps p.tables e below (T2.setTop (mkF m 19 #[.val (.long q1), .second, .val (.long q2), .second, .val (.long (q1 * q2)), .second, .val (.long (own_abs q1)), .second, .val (.long (own_abs q2)), .second] [(.long (own_abs q1))])) _
    refine XS.lload X2.here hx rfl (hb hby d2_19) rfl ?_
    show Steps p.tables e below (T2.setTop (mkF m 21 #[.val (.long q1), .second, .val (.long q2), .second, .val (.long (q1 * q2)), .second, .val (.long (own_abs q1)), .second, .val (.long (own_abs q2)), .second] [(.long (own_abs q2)), (.long (own_abs q1))])) _
    refine XS.lor X2.here hx rfl (hb hby d2_21) rfl ?_
    show Steps p.tables e below (T2.setTop (mkF m 22 #[.val (.long q1), .second, .val (.long q2), .second, .val (.long (q1 * q2)), .second, .val (.long (own_abs q1)), .second, .val (.long (own_abs q2)), .second] [(.long ((own_abs q1) ||| (own_abs q2)))])) _
    refine XS.bipush X2.here hx rfl (hb hby d2_22) ?_
    show Steps p.tables e below (T2.setTop (mkF m 24 #[.val (.long q1), .second, .val (.long q2), .second, .val (.long (q1 * q2)), .second, .val (.long (own_abs q1)), .second, .val (.long (own_abs q2)), .second] [(.int (31 : Int32)), (.long ((own_abs q1) ||| (own_abs q2)))])) _
    refine XS.lushr X2.here hx rfl (hb hby d2_24) rfl ?_
    show Steps p.tables e below (T2.setTop (mkF m 25 #[.val (.long q1), .second, .val (.long q2), .second, .val (.long (q1 * q2)), .second, .val (.long (own_abs q1)), .second, .val (.long (own_abs q2)), .second] [(.long ((((own_abs q1) ||| (own_abs q2)).toUInt64 >>> ((31 : Int32) &&& 0x3f).toInt64.toUInt64).toInt64))])) _
    refine XS.lconst X2.here hx rfl (hb hby d2_25) ?_
    show Steps p.tables e below (T2.setTop (mkF m 26 #[.val (.long q1), .second, .val (.long q2), .second, .val (.long (q1 * q2)), .second, .val (.long (own_abs q1)), .second, .val (.long (own_abs q2)), .second] [(.long (0 : Int64)), (.long ((((own_abs q1) ||| (own_abs q2)).toUInt64 >>> ((31 : Int32) &&& 0x3f).toInt64.toUInt64).toInt64))])) _
    refine XS.lcmp X2.here hx rfl (hb hby d2_26) rfl ?_
    exact k)
  by_cases cd27 : ((((own_abs q1) ||| (own_abs q2)).toUInt64 >>> ((31 : Int32) &&& 0x3f).toInt64.toUInt64).toInt64) = (0 : Int64)
  ·
    have k5 : ∀ t, Steps p.tables e below (T2.setTop (mkF m 73 #[.val (.long q1), .second, .val (.long q2), .second, .val (.long (q1 * q2)), .second, .val (.long (own_abs q1)), .second, .val (.long (own_abs q2)), .second] [(.long (q1 * q2))])) t → Steps p.tables e below (s₁.setTop (entryFrame m #[(.long q1), (.long q2)] 10)) t := fun t k => k3 t (by
      show Steps p.tables e below (T2.setTop (mkF m 27 #[.val (.long q1), .second, .val (.long q2), .second, .val (.long (q1 * q2)), .second, .val (.long (own_abs q1)), .second, .val (.long (own_abs q2)), .second] [(.int (lcmpW ((((own_abs q1) ||| (own_abs q2)).toUInt64 >>> ((31 : Int32) &&& 0x3f).toInt64.toUInt64).toInt64) (0 : Int64)))])) _
      refine XS.ifYes X2.here hx rfl (pc0 := 27) (pc' := 71) rfl (hb hby d2_27) rfl ((if0 _ _).trans (teq ((lw_eq ((((own_abs q1) ||| (own_abs q2)).toUInt64 >>> ((31 : Int32) &&& 0x3f).toInt64.toUInt64).toInt64) (0 : Int64)).mpr cd27)).1) (by decide) (by decide) ?_
      show Steps p.tables e below (T2.setTop (mkF m 71 #[.val (.long q1), .second, .val (.long q2), .second, .val (.long (q1 * q2)), .second, .val (.long (own_abs q1)), .second, .val (.long (own_abs q2)), .second] [])) _
      refine XS.lload X2.here hx rfl (hb hby d2_71) rfl ?_
      exact k)
    obtain ⟨fs, hr, hrun, hended, hW, hsame⟩ := X2.leave (v := some (.long (q1 * q2))) (fun h => by rw [Bd.returns] at h; cases h)
    refine ⟨_, _, k5 _ ?_, hrun, hended, _, _, rfl, ?_, ⟨_, rfl⟩, hW, hsame.mono (by decide) (by decide)⟩
    · show Steps p.tables e below (T2.setTop (mkF m 73 #[.val (.long q1), .second, .val (.long q2), .second, .val (.long (q1 * q2)), .second, .val (.long (own_abs q1)), .second, .val (.long (own_abs q2)), .second] [(.long (q1 * q2))])) _
      jvm_step X2.here [X2.here.top, hx, (hb hby d2_73), X2.method', Bd.returns, narrow]
      first | (intro acts; rw [hr _ acts rfl rfl rfl]) | rw [hr _ _ rfl rfl rfl]
      exact Steps.refl _
    ·
      show Qmulx _ q1 q2 h0 n0 _ T2.heap _
      rw [qb]
      exact ⟨rfl, N2, rfl⟩
  ·
    have k6 : ∀ t, Steps p.tables e below (T2.setTop (mkF m 33 #[.val (.long q1), .second, .val (.long q2), .second, .val (.long (q1 * q2)), .second, .val (.long (own_abs q1)), .second, .val (.long (own_abs q2)), .second] [(.int (lcmpW q2 (0 : Int64)))])) t → Steps p.tables e below (s₁.setTop (entryFrame m #[(.long q1), (.long q2)] 10)) t := fun t k => k3 t (by
      show Steps p.tables e below (T2.setTop (mkF m 27 #[.val (.long q1), .second, .val (.long q2), .second, .val (.long (q1 * q2)), .second, .val (.long (own_abs q1)), .second, .val (.long (own_abs q2)), .second] [(.int (lcmpW ((((own_abs q1) ||| (own_abs q2)).toUInt64 >>> ((31 : Int32) &&& 0x3f).toInt64.toUInt64).toInt64) (0 : Int64)))])) _
      refine XS.ifNo X2.here hx rfl (hb hby d2_27) rfl ((if0 _ _).trans (feq (fun q => cd27 ((lw_eq ((((own_abs q1) ||| (own_abs q2)).toUInt64 >>> ((31 : Int32) &&& 0x3f).toInt64.toUInt64).toInt64) (0 : Int64)).mp q))).1) ?_
      show Steps p.tables e below (T2.setTop (mkF m 30 #[.val (.long q1), .second, .val (.long q2), .second, .val (.long (q1 * q2)), .second, .val (.long (own_abs q1)), .second, .val (.long (own_abs q2)), .second] [])) _
      refine XS.lloadN X2.here hx rfl (hb hby d2_30) rfl ?_
      show Steps p.tables e below (T2.setTop (mkF m 31 #[.val (.long q1), .second, .val (.long q2), .second, .val (.long (q1 * q2)), .second, .val (.long (own_abs q1)), .second, .val (.long (own_abs q2)), .second] [(.long q2)])) _
      refine XS.lconst X2.here hx rfl (hb hby d2_31) ?_
      show Steps p.tables e below (T2.setTop (mkF m 32 #[.val (.long q1), .second, .val (.long q2), .second, .val (.long (q1 * q2)), .second, .val (.long (own_abs q1)), .second, .val (.long (own_abs q2)), .second] [(.long (0 : Int64)), (.long q2)])) _
      refine XS.lcmp X2.here hx rfl (hb hby d2_32) rfl ?_
      exact k)
    by_cases cd33 : q2 = (0 : Int64)
    ·
      have k8 : ∀ t, Steps p.tables e below (T2.setTop (mkF m 73 #[.val (.long q1), .second, .val (.long q2), .second, .val (.long (q1 * q2)), .second, .val (.long (own_abs q1)), .second, .val (.long (own_abs q2)), .second] [(.long (q1 * q2))])) t → Steps p.tables e below (s₁.setTop (entryFrame m #[(.long q1), (.long q2)] 10)) t := fun t k => k6 t (by
        show Steps p.tables e below (T2.setTop (mkF m 33 #[.val (.long q1), .second, .val (.long q2), .second, .val (.long (q1 * q2)), .second, .val (.long (own_abs q1)), .second, .val (.long (own_abs q2)), .second] [(.int (lcmpW q2 (0 : Int64)))])) _
        refine XS.ifYes X2.here hx rfl (pc0 := 33) (pc' := 45) rfl (hb hby d2_33) rfl ((if0 _ _).trans (teq ((lw_eq q2 (0 : Int64)).mpr cd33)).1) (by decide) (by decide) ?_
        show Steps p.tables e below (T2.setTop (mkF m 45 #[.val (.long q1), .second, .val (.long q2), .second, .val (.long (q1 * q2)), .second, .val (.long (own_abs q1)), .second, .val (.long (own_abs q2)), .second] [])) _
        refine XS.lloadN X2.here hx rfl (hb hby d2_45) rfl ?_
        show Steps p.tables e below (T2.setTop (mkF m 46 #[.val (.long q1), .second, .val (.long q2), .second, .val (.long (q1 * q2)), .second, .val (.long (own_abs q1)), .second, .val (.long (own_abs q2)), .second] [(.long q1)])) _
        refine X2.ldc2Long hx hown (mvT hZ (hw _ (List.mem_of_getElem? (i := 18) rfl))) (g := (mkF m 46 #[.val (.long q1), .second, .val (.long q2), .second, .val (.long (q1 * q2)), .second, .val (.long (own_abs q1)), .second, .val (.long (own_abs q2)), .second] [(.long q1)])) rfl (hb hby d2_46) _ ?_
        show Steps p.tables e below (T2.setTop (mkF m 49 #[.val (.long q1), .second, .val (.long q2), .second, .val (.long (q1 * q2)), .second, .val (.long (own_abs q1)), .second, .val (.long (own_abs q2)), .second] [(.long (-9223372036854775808 : Int64)), (.long q1)])) _
        refine XS.lcmp X2.here hx rfl (hb hby d2_49) rfl ?_
        show Steps p.tables e below (T2.setTop (mkF m 50 #[.val (.long q1), .second, .val (.long q2), .second, .val (.long (q1 * q2)), .second, .val (.long (own_abs q1)), .second, .val (.long (own_abs q2)), .second] [(.int (lcmpW q1 (-9223372036854775808 : Int64)))])) _
        refine XS.ifYes X2.here hx rfl (pc0 := 50) (pc' := 71) rfl (hb hby d2_50) rfl ((if0 _ _).trans (feq (fun q => hq1 ((lw_eq q1 (-9223372036854775808 : Int64)).mp q))).2) (by decide) (by decide) ?_
        show Steps p.tables e below (T2.setTop (mkF m 71 #[.val (.long q1), .second, .val (.long q2), .second, .val (.long (q1 * q2)), .second, .val (.long (own_abs q1)), .second, .val (.long (own_abs q2)), .second] [])) _
        refine XS.lload X2.here hx rfl (hb hby d2_71) rfl ?_
        exact k)
      obtain ⟨fs, hr, hrun, hended, hW, hsame⟩ := X2.leave (v := some (.long (q1 * q2))) (fun h => by rw [Bd.returns] at h; cases h)
      refine ⟨_, _, k8 _ ?_, hrun, hended, _, _, rfl, ?_, ⟨_, rfl⟩, hW, hsame.mono (by decide) (by decide)⟩
      · show Steps p.tables e below (T2.setTop (mkF m 73 #[.val (.long q1), .second, .val (.long q2), .second, .val (.long (q1 * q2)), .second, .val (.long (own_abs q1)), .second, .val (.long (own_abs q2)), .second] [(.long (q1 * q2))])) _
        jvm_step X2.here [X2.here.top, hx, (hb hby d2_73), X2.method', Bd.returns, narrow]
        first | (intro acts; rw [hr _ acts rfl rfl rfl]) | rw [hr _ _ rfl rfl rfl]
        exact Steps.refl _
      ·
        show Qmulx _ q1 q2 h0 n0 _ T2.heap _
        rw [qb]
        exact ⟨rfl, N2, rfl⟩
    ·
      have hnz39 : ¬ q2 = (0 : Int64) := cd33
      have k10 : ∀ t, Steps p.tables e below (T2.setTop (mkF m 73 #[.val (.long q1), .second, .val (.long q2), .second, .val (.long (q1 * q2)), .second, .val (.long (own_abs q1)), .second, .val (.long (own_abs q2)), .second] [(.long (q1 * q2))])) t → Steps p.tables e below (s₁.setTop (entryFrame m #[(.long q1), (.long q2)] 10)) t := fun t k => k6 t (by
        show Steps p.tables e below (T2.setTop (mkF m 33 #[.val (.long q1), .second, .val (.long q2), .second, .val (.long (q1 * q2)), .second, .val (.long (own_abs q1)), .second, .val (.long (own_abs q2)), .second] [(.int (lcmpW q2 (0 : Int64)))])) _
        refine XS.ifNo X2.here hx rfl (hb hby d2_33) rfl ((if0 _ _).trans (feq (fun q => cd33 ((lw_eq q2 (0 : Int64)).mp q))).1) ?_
        show Steps p.tables e below (T2.setTop (mkF m 36 #[.val (.long q1), .second, .val (.long q2), .second, .val (.long (q1 * q2)), .second, .val (.long (own_abs q1)), .second, .val (.long (own_abs q2)), .second] [])) _
        refine XS.lload X2.here hx rfl (hb hby d2_36) rfl ?_
        show Steps p.tables e below (T2.setTop (mkF m 38 #[.val (.long q1), .second, .val (.long q2), .second, .val (.long (q1 * q2)), .second, .val (.long (own_abs q1)), .second, .val (.long (own_abs q2)), .second] [(.long (q1 * q2))])) _
        refine XS.lloadN X2.here hx rfl (hb hby d2_38) rfl ?_
        show Steps p.tables e below (T2.setTop (mkF m 39 #[.val (.long q1), .second, .val (.long q2), .second, .val (.long (q1 * q2)), .second, .val (.long (own_abs q1)), .second, .val (.long (own_abs q2)), .second] [(.long q2), (.long (q1 * q2))])) _
        refine XS.ldiv X2.here hx rfl (hb hby d2_39) rfl hnz39 ?_
        show Steps p.tables e below (T2.setTop (mkF m 40 #[.val (.long q1), .second, .val (.long q2), .second, .val (.long (q1 * q2)), .second, .val (.long (own_abs q1)), .second, .val (.long (own_abs q2)), .second] [(.long ((q1 * q2) / q2))])) _
        refine XS.lloadN X2.here hx rfl (hb hby d2_40) rfl ?_
        show Steps p.tables e below (T2.setTop (mkF m 41 #[.val (.long q1), .second, .val (.long q2), .second, .val (.long (q1 * q2)), .second, .val (.long (own_abs q1)), .second, .val (.long (own_abs q2)), .second] [(.long q1), (.long ((q1 * q2) / q2))])) _
        refine XS.lcmp X2.here hx rfl (hb hby d2_41) rfl ?_
        show Steps p.tables e below (T2.setTop (mkF m 42 #[.val (.long q1), .second, .val (.long q2), .second, .val (.long (q1 * q2)), .second, .val (.long (own_abs q1)), .second, .val (.long (own_abs q2)), .second] [(.int (lcmpW ((q1 * q2) / q2) q1))])) _
        refine XS.ifNo X2.here hx rfl (hb hby d2_42) rfl ((if0 _ _).trans (teq ((lw_eq ((q1 * q2) / q2) q1).mpr (hm.resolve_left cd33))).2) ?_
        show Steps p.tables e below (T2.setTop (mkF m 45 #[.val (.long q1), .second, .val (.long q2), .second, .val (.long (q1 * q2)), .second, .val (.long (own_abs q1)), .second, .val (.long (own_abs q2)), .second] [])) _
        refine XS.lloadN X2.here hx rfl (hb hby d2_45) rfl ?_
        show Steps p.tables e below (T2.setTop (mkF m 46 #[.val (.long q1), .second, .val (.long q2), .second, .val (.long (q1 * q2)), .second, .val (.long (own_abs q1)), .second, .val (.long (own_abs q2)), .second] [(.long q1)])) _
        refine X2.ldc2Long hx hown (mvT hZ (hw _ (List.mem_of_getElem? (i := 18) rfl))) (g := (mkF m 46 #[.val (.long q1), .second, .val (.long q2), .second, .val (.long (q1 * q2)), .second, .val (.long (own_abs q1)), .second, .val (.long (own_abs q2)), .second] [(.long q1)])) rfl (hb hby d2_46) _ ?_
        show Steps p.tables e below (T2.setTop (mkF m 49 #[.val (.long q1), .second, .val (.long q2), .second, .val (.long (q1 * q2)), .second, .val (.long (own_abs q1)), .second, .val (.long (own_abs q2)), .second] [(.long (-9223372036854775808 : Int64)), (.long q1)])) _
        refine XS.lcmp X2.here hx rfl (hb hby d2_49) rfl ?_
        show Steps p.tables e below (T2.setTop (mkF m 50 #[.val (.long q1), .second, .val (.long q2), .second, .val (.long (q1 * q2)), .second, .val (.long (own_abs q1)), .second, .val (.long (own_abs q2)), .second] [(.int (lcmpW q1 (-9223372036854775808 : Int64)))])) _
        refine XS.ifYes X2.here hx rfl (pc0 := 50) (pc' := 71) rfl (hb hby d2_50) rfl ((if0 _ _).trans (feq (fun q => hq1 ((lw_eq q1 (-9223372036854775808 : Int64)).mp q))).2) (by decide) (by decide) ?_
        show Steps p.tables e below (T2.setTop (mkF m 71 #[.val (.long q1), .second, .val (.long q2), .second, .val (.long (q1 * q2)), .second, .val (.long (own_abs q1)), .second, .val (.long (own_abs q2)), .second] [])) _
        refine XS.lload X2.here hx rfl (hb hby d2_71) rfl ?_
        exact k)
      obtain ⟨fs, hr, hrun, hended, hW, hsame⟩ := X2.leave (v := some (.long (q1 * q2))) (fun h => by rw [Bd.returns] at h; cases h)
      refine ⟨_, _, k10 _ ?_, hrun, hended, _, _, rfl, ?_, ⟨_, rfl⟩, hW, hsame.mono (by decide) (by decide)⟩
      · show Steps p.tables e below (T2.setTop (mkF m 73 #[.val (.long q1), .second, .val (.long q2), .second, .val (.long (q1 * q2)), .second, .val (.long (own_abs q1)), .second, .val (.long (own_abs q2)), .second] [(.long (q1 * q2))])) _
        jvm_step X2.here [X2.here.top, hx, (hb hby d2_73), X2.method', Bd.returns, narrow]
        first | (intro acts; rw [hr _ acts rfl rfl rfl]) | rw [hr _ _ rfl rfl rfl]
        exact Steps.refl _
      ·
        show Qmulx _ q1 q2 h0 n0 _ T2.heap _
        rw [qb]
        exact ⟨rfl, N2, rfl⟩
theorem pd__JJ_J : parseMethodDescriptor "(JJ)J" = some ⟨[.long, .long], some .long⟩ := by decide +kernel
theorem d1_0 : decode prog_8_method_2_code 0 = .ok (.lload_n 0, 1) := by decide +kernel
theorem d1_1 : decode prog_8_method_2_code 1 = .ok (.iload_n 2, 1) := by decide +kernel
theorem d1_2 : decode prog_8_method_2_code 2 = .ok (.i2l, 1) := by decide +kernel
theorem d1_3 : decode prog_8_method_2_code 3 = .ok (.invokestatic 7, 3) := by decide +kernel
theorem d1_6 : decode prog_8_method_2_code 6 = .ok (.ldc2_w 15, 3) := by decide +kernel
theorem d1_9 : decode prog_8_method_2_code 9 = .ok (.ladd, 1) := by decide +kernel
theorem d1_10 : decode prog_8_method_2_code 10 = .ok (.ldc2_w 17, 3) := by decide +kernel
theorem d1_13 : decode prog_8_method_2_code 13 = .ok (.ldiv, 1) := by decide +kernel
theorem d1_14 : decode prog_8_method_2_code 14 = .ok (.lreturn, 1) := by decide +kernel
theorem pn_1 : plainName "com/example/tillstone/tillstone/Money" = true := by first | (simp [plainName, overriddenIn]; done) | decide +kernel
theorem ef_fee (m : MethodId) (x0 : Int64) (x1 : Int32) : entryFrame m #[(.long x0), (.int x1)] 3 = mkF m 0 #[.val (.long x0), .second, .val (.int x1)] [] := by first | (simp [entryFrame, mkF, argsToLocals, Value.category]; done) | rfl
def Qfee (Z : State) (q1 : Int64) (p2 : Int32) (h0 : Heap) (n0 : Nat) (v : Option Value) (h : Heap) (L : List Loc) : Prop := v = some (.long (((q1 * (p2.toInt64)) + (5000 : Int64)) / (10000 : Int64))) ∧ Fr n0 L ∧ h = h0
set_option maxRecDepth 65536 in
set_option maxHeartbeats 40000000 in
theorem rm_fee (l : Launch) (Z : State) (a0 : Array Value) (hw : ∀ d ∈ tables_1, d.before a0 Z = true) (ws : List Jvm.Cond) (q1 : Int64) (p2 : Int32) (h0 : Heap) (n0 : Nat) (Z0 : n0 ≤ h0.size) (hm : (p2.toInt64) = (0 : Int64) ∨ (q1 * (p2.toInt64)) / (p2.toInt64) = q1) (hq1 : ¬ q1 = (-9223372036854775808 : Int64)) :
    MetFree l (⟨"com/example/tillstone/tillstone/Money", "fee", "(JI)J"⟩ : MethodName) (head1 (Jvm.Cond.code (⟨"com/example/tillstone/tillstone/Money", "fee", "(JI)J"⟩ : MethodName) prog_8_method_2_code 3 (some .long) :: ws) ({ frames := 2, cells := 0, slots := 0, locals := 34 } : Room)) (fun a U => a = #[(.long q1), (.int p2)] ∧ Z.Warmed39 U.vm ∧ U.heap = h0) (fun _ _ _ _ _ => True) (fun _ U o U' => ∃ v L, o = .returned v ∧ Qfee Z q1 p2 h0 n0 v U'.heap L ∧ FrameEnd U o U' L ({ frames := 2, cells := 0, slots := 0, locals := 34 } : Room).cells ({ frames := 2, cells := 0, slots := 0, locals := 34 } : Room).slots) := by
  refine MetFree.of_bodySF (plainFor_of_name pn_1) hisR ?_
  intro p e s m args below meth c s₁ Bd hml0 hP hK
  obtain ⟨rfl, hZ, hh⟩ := hP
  have hx := Bd.exec
  have hby := Bd.bytes
  have hml : c.maxLocals = 3 := hml0
  have hown : s.vm.findClass "com/example/tillstone/tillstone/Money" = some m.cls := findClass_of_methodNamed Bd.named
  have hnm := (name_of_methodNamed Bd.named Bd.method).1
  have X0 : Stand p l e ({ frames := 2, cells := 0, slots := 0, locals := 34 } : Room) s m #[(.long q1), (.int p2)] below meth c s₁ [] 0 0 := Stand.of_body Bd
  have e0 : s₁.heap = h0 := by rw [← hh, Bd.state]; rfl
  have N0 := Fr.nil n0
  have k0 : ∀ t, Steps p.tables e below (s₁.setTop (mkF m 0 #[.val (.long q1), .second, .val (.int p2)] [])) t → Steps p.tables e below (s₁.setTop (entryFrame m #[(.long q1), (.int p2)] 3)) t := fun t k => castTop (ef_fee m q1 p2) k
  obtain ⟨_, _, ⟨T1, L1, kk1, n1⟩, -, X1, ⟨Lc1, hQ1, l1, y1, z1⟩, st1⟩ := Jvm.LawKit.callS X0 hx (y := (⟨"java/lang/Math", "multiplyExact", "(JJ)J"⟩ : MethodName)) hown (mvT hZ (hw _ (List.mem_of_getElem? (i := 7) rfl))) (mvT hZ (hw _ (List.mem_of_getElem? (i := 8) rfl))) (mvT hZ (hw _ (List.mem_of_getElem? (i := 9) rfl))) (mvT hZ (hw _ (List.mem_of_getElem? (i := 10) rfl))) (by decide) (backOf (W := 0) (rm_mulx l Z a0 hw [] q1 (p2.toInt64) h0 n0 Z0 hm hq1) hZ (hw _ (List.mem_of_getElem? (i := 10) rfl)) (hw _ (List.mem_of_getElem? (i := 9) rfl)) (by decide) (by decide)) (g := (mkF m 3 #[.val (.long q1), .second, .val (.int p2)] [(.long (p2.toInt64)), (.long q1)])) rfl (by rw [hml]; rfl) (argsL := [(.long q1), (.long (p2.toInt64))]) (rest := []) (lenOf pd__JJ_J rfl) rfl (by show 2 * 0 + _ ≤ _; exact Nat.le_of_eq rfl) (hb hby d1_3) (fun _ _ => ⟨rfl, e0, (by decide : 0 + 0 ≤ _), (by decide : 0 + 0 ≤ _)⟩)
  dsimp only [Pt.U, Pt.locs, Pt.cells, Pt.slots] at X1 l1 y1 z1 st1 hQ1
  subst l1 y1 z1
  obtain ⟨rfl, N1q, qa⟩ := hQ1
  have N1 := Fr.app N0 N1q
  have k3 : ∀ t, Steps p.tables e below (T1.setTop (mkF m 14 #[.val (.long q1), .second, .val (.int p2)] [(.long (((q1 * (p2.toInt64)) + (5000 : Int64)) / (10000 : Int64)))])) t → Steps p.tables e below (s₁.setTop (entryFrame m #[(.long q1), (.int p2)] 3)) t := fun t k => k0 t (by
    show Steps p.tables e below (s₁.setTop (mkF m 0 #[.val (.long q1), .second, .val (.int p2)] [])) _
    refine XS.lloadN X0.here hx rfl (hb hby d1_0) rfl ?_
    show Steps p.tables e below (s₁.setTop (mkF m 1 #[.val (.long q1), .second, .val (.int p2)] [(.long q1)])) _
    refine XS.iloadN X0.here hx rfl (hb hby d1_1) rfl ?_
    show Steps p.tables e below (s₁.setTop (mkF m 2 #[.val (.long q1), .second, .val (.int p2)] [(.int p2), (.long q1)])) _
    refine XS.i2l X0.here hx rfl (hb hby d1_2) rfl ?_
    show Steps p.tables e below (s₁.setTop (mkF m 3 #[.val (.long q1), .second, .val (.int p2)] [(.long (p2.toInt64)), (.long q1)])) _
    refine st1 _ ?_
    show Steps p.tables e below (T1.setTop (mkF m 6 #[.val (.long q1), .second, .val (.int p2)] [(.long (q1 * (p2.toInt64)))])) _
    refine X1.ldc2Long hx hown (mvT hZ (hw _ (List.mem_of_getElem? (i := 14) rfl))) (g := (mkF m 6 #[.val (.long q1), .second, .val (.int p2)] [(.long (q1 * (p2.toInt64)))])) rfl (hb hby d1_6) _ ?_
    show Steps p.tables e below (T1.setTop (mkF m 9 #[.val (.long q1), .second, .val (.int p2)] [(.long (5000 : Int64)), (.long (q1 * (p2.toInt64)))])) _
    refine XS.ladd X1.here hx rfl (hb hby d1_9) rfl ?_
    show Steps p.tables e below (T1.setTop (mkF m 10 #[.val (.long q1), .second, .val (.int p2)] [(.long ((q1 * (p2.toInt64)) + (5000 : Int64)))])) _
    refine X1.ldc2Long hx hown (mvT hZ (hw _ (List.mem_of_getElem? (i := 15) rfl))) (g := (mkF m 10 #[.val (.long q1), .second, .val (.int p2)] [(.long ((q1 * (p2.toInt64)) + (5000 : Int64)))])) rfl (hb hby d1_10) _ ?_
    show Steps p.tables e below (T1.setTop (mkF m 13 #[.val (.long q1), .second, .val (.int p2)] [(.long (10000 : Int64)), (.long ((q1 * (p2.toInt64)) + (5000 : Int64)))])) _
    refine XS.ldiv X1.here hx rfl (hb hby d1_13) rfl (by decide) ?_
    exact k)
  obtain ⟨fs, hr, hrun, hended, hW, hsame⟩ := X1.leave (v := some (.long (((q1 * (p2.toInt64)) + (5000 : Int64)) / (10000 : Int64)))) (fun h => by rw [Bd.returns] at h; cases h)
  refine ⟨_, _, k3 _ ?_, hrun, hended, _, _, rfl, ?_, ⟨_, rfl⟩, hW, hsame.mono (by decide) (by decide)⟩
  · show Steps p.tables e below (T1.setTop (mkF m 14 #[.val (.long q1), .second, .val (.int p2)] [(.long (((q1 * (p2.toInt64)) + (5000 : Int64)) / (10000 : Int64)))])) _
    jvm_step X1.here [X1.here.top, hx, (hb hby d1_14), X1.method', Bd.returns, narrow]
    first | (intro acts; rw [hr _ acts rfl rfl rfl]) | rw [hr _ _ rfl rfl rfl]
    exact Steps.refl _
  ·
    show Qfee _ q1 p2 h0 n0 _ T1.heap _
    rw [qa]
    exact ⟨rfl, N1, rfl⟩
theorem own_am (a : Int64) : 0 ≤ ((a &&& (9223372036854775807 : Int64)) - ((a &&& (9223372036854775807 : Int64)) / (1000000000000 : Int64)) * (1000000000000 : Int64)).toInt ∧ ((a &&& (9223372036854775807 : Int64)) - ((a &&& (9223372036854775807 : Int64)) / (1000000000000 : Int64)) * (1000000000000 : Int64)).toInt ≤ 999999999999 := by
  have h1 := c_maskL a 9223372036854775807 63 (by decide) (by decide)
  have h2 := (c_lrem (a &&& (9223372036854775807 : Int64)) 1000000000000 1000000000000 (by decide)).1 (by rw [h1]; omega)
  rw [h2]; omega
theorem own_bp (b : Int32) : 0 ≤ ((b &&& (2147483647 : Int32)) - ((b &&& (2147483647 : Int32)) / (10001 : Int32)) * (10001 : Int32)).toInt ∧ ((b &&& (2147483647 : Int32)) - ((b &&& (2147483647 : Int32)) / (10001 : Int32)) * (10001 : Int32)).toInt ≤ 10000 := by
  have h1 := c_mask b 2147483647 31 (by decide) (by decide)
  have h2 := own_irem (b &&& (2147483647 : Int32)) 10001 10001 (by decide) (by decide) (by decide) (by rw [h1]; omega)
  rw [h2]; omega
theorem own_div (a : Int64) (b : Int32) (ha0 : 0 ≤ a.toInt) (ha1 : a.toInt ≤ 999999999999) (hb0 : 0 ≤ b.toInt) (hb1 : b.toInt ≤ 10000) :
    ((b.toInt64) = (0 : Int64) ∨ (a * (b.toInt64)) / (b.toInt64) = a) ∧ ¬ a = (-9223372036854775808 : Int64) ∧ (a * b.toInt64).toInt = a.toInt * b.toInt ∧ 0 ≤ a.toInt * b.toInt ∧ a.toInt * b.toInt ≤ a.toInt * 10000 := by
  have e1 : b.toInt64.toInt = b.toInt := c_i2l b
  have hP0 : 0 ≤ a.toInt * b.toInt := Int.mul_nonneg ha0 hb0
  have hP1 : a.toInt * b.toInt ≤ a.toInt * 10000 := Int.mul_le_mul_of_nonneg_left hb1 ha0
  have r := rng64 (a * b.toInt64)
  have q := c_lmul a b.toInt64
  rw [e1] at q
  have e2 : (a * b.toInt64).toInt = a.toInt * b.toInt := by omega
  refine ⟨?_, ?_, e2, hP0, hP1⟩
  · by_cases hz : b.toInt = 0
    · exact Or.inl (Int64.toInt_inj.mp (by rw [e1, hz]; decide))
    · refine Or.inr (Int64.toInt_inj.mp ?_)
      have hm1 : b.toInt64 ≠ -1 := fun q => by
        have := congrArg Int64.toInt q
        rw [e1] at this
        have z : (-1 : Int64).toInt = -1 := by decide
        omega
      rw [(c_ldiv (a * b.toInt64) b.toInt64 b.toInt e1 hm1).1 (by omega), e2, Int.mul_ediv_cancel _ hz]
  · intro q
    have := congrArg Int64.toInt q
    have z : (-9223372036854775808 : Int64).toInt = -9223372036854775808 := by decide
    omega
theorem own_fee (a : Int64) (b : Int32) (ha0 : 0 ≤ a.toInt) (ha1 : a.toInt ≤ 999999999999) (hb0 : 0 ≤ b.toInt) (hb1 : b.toInt ≤ 10000) (f p : Int64) (hf : f = ((a * (b.toInt64)) + (5000 : Int64)) / (10000 : Int64)) (hp : p = a * (b.toInt64)) :
    ¬ p < (((10000 : Int64) * f) - (5000 : Int64)) ∧ p < (((10000 : Int64) * f) + (5000 : Int64)) ∧ ¬ f < (0 : Int64) ∧ ¬ a < f := by
  obtain ⟨-, -, e2, hP0, hP1⟩ := own_div a b ha0 ha1 hb0 hb1
  subst hf
  have z1 : (5000 : Int64).toInt = 5000 := by decide
  have z2 : (10000 : Int64).toInt = 10000 := by decide
  have z3 : (0 : Int64).toInt = 0 := by decide
  have ep : p.toInt = a.toInt * b.toInt := by rw [hp, e2]
  rw [← hp]
  have q3 := c_ladd p (5000 : Int64)
  have r3 := rng64 (p + (5000 : Int64))
  have e3 : (p + (5000 : Int64)).toInt = p.toInt + 5000 := by rw [z1] at q3; omega
  have e4 := (c_ldiv (p + (5000 : Int64)) (10000 : Int64) 10000 z2 (by decide)).1 (by omega)
  generalize (p + (5000 : Int64)) / (10000 : Int64) = f at *
  have q5 := c_lmul (10000 : Int64) f
  rw [z2] at q5
  have r5 := rng64 ((10000 : Int64) * f)
  have e5 : ((10000 : Int64) * f).toInt = 10000 * f.toInt := by omega
  have q6 := c_lsub ((10000 : Int64) * f) (5000 : Int64)
  have r6 := rng64 (((10000 : Int64) * f) - (5000 : Int64))
  have q7 := c_ladd ((10000 : Int64) * f) (5000 : Int64)
  have r7 := rng64 (((10000 : Int64) * f) + (5000 : Int64))
  rw [z1] at q6 q7
  simp only [Int64.lt_iff_toInt_lt, z3]
  refine ⟨?_, ?_, ?_, ?_⟩ <;> omega
theorem pd__JI_J : parseMethodDescriptor "(JI)J" = some ⟨[.long, .int], some .long⟩ := by decide +kernel
theorem pn_0 : plainName "com/example/tillstone/tillstone/MoneyFeePinLaw" = true := by first | (simp [plainName, overriddenIn]; done) | decide +kernel
theorem ef_law (m : MethodId) (x0 : Int64) (x1 : Int32) : entryFrame m #[(.long x0), (.int x1)] maxLocals = mkF m 0 #[.val (.long x0), .second, .val (.int x1), .unset, .unset, .unset, .unset, .unset, .unset, .unset, .unset, .unset] [] := by first | (simp [entryFrame, mkF, argsToLocals, Value.category, maxLocals]; done) | rfl
def Qlaw (Z : State) (q1 : Int64) (p2 : Int32) (h0 : Heap) (n0 : Nat) (v : Option Value) (h : Heap) (L : List Loc) : Prop := v = some (.int (1 : Int32)) ∧ Fr n0 L
set_option maxRecDepth 65536 in
set_option maxHeartbeats 40000000 in
theorem rm_law (l : Launch) (Z : State) (a0 : Array Value) (hw : ∀ d ∈ tables_1, d.before a0 Z = true) (ws : List Jvm.Cond) (q1 : Int64) (p2 : Int32) (h0 : Heap) (n0 : Nat) (Z0 : n0 ≤ h0.size) :
    MetFree l x (head1 (Jvm.Cond.code x code maxLocals ret :: ws) room_1) (fun a U => a = #[(.long q1), (.int p2)] ∧ Z.Warmed39 U.vm ∧ U.heap = h0) (fun _ _ _ _ _ => True) (fun _ U o U' => ∃ v L, o = .returned v ∧ Qlaw Z q1 p2 h0 n0 v U'.heap L ∧ FrameEnd U o U' L room_1.cells room_1.slots) := by
  refine MetFree.of_bodySF (plainFor_of_name pn_0) hisR ?_
  intro p e s m args below meth c s₁ Bd hml0 hP hK
  obtain ⟨rfl, hZ, hh⟩ := hP
  have hx := Bd.exec
  have hby := Bd.bytes
  have hml : c.maxLocals = 12 := hml0
  have hown : s.vm.findClass "com/example/tillstone/tillstone/MoneyFeePinLaw" = some m.cls := findClass_of_methodNamed Bd.named
  have hnm := (name_of_methodNamed Bd.named Bd.method).1
  have X0 : Stand p l e room_1 s m #[(.long q1), (.int p2)] below meth c s₁ [] 0 0 := Stand.of_body Bd
  have e0 : s₁.heap = h0 := by rw [← hh, Bd.state]; rfl
  have N0 := Fr.nil n0
  have k0 : ∀ t, Steps p.tables e below (s₁.setTop (mkF m 0 #[.val (.long q1), .second, .val (.int p2), .unset, .unset, .unset, .unset, .unset, .unset, .unset, .unset, .unset] [])) t → Steps p.tables e below (s₁.setTop (entryFrame m #[(.long q1), (.int p2)] maxLocals)) t := fun t k => castTop (ef_law m q1 p2) k
  have k1 : ∀ t, Steps p.tables e below (s₁.setTop (mkF m 10 #[.val (.long q1), .second, .val (.int p2), .val (.long ((q1 &&& (9223372036854775807 : Int64)) - ((q1 &&& (9223372036854775807 : Int64)) / (1000000000000 : Int64)) * (1000000000000 : Int64))), .second, .unset, .unset, .unset, .unset, .unset, .unset, .unset] [])) t → Steps p.tables e below (s₁.setTop (entryFrame m #[(.long q1), (.int p2)] maxLocals)) t := fun t k => k0 t (by
    show Steps p.tables e below (s₁.setTop (mkF m 0 #[.val (.long q1), .second, .val (.int p2), .unset, .unset, .unset, .unset, .unset, .unset, .unset, .unset, .unset] [])) _
    refine XS.lloadN X0.here hx rfl (hb hby at_0) rfl ?_
    show Steps p.tables e below (s₁.setTop (mkF m 1 #[.val (.long q1), .second, .val (.int p2), .unset, .unset, .unset, .unset, .unset, .unset, .unset, .unset, .unset] [(.long q1)])) _
    refine X0.ldc2Long hx hown (mvT hZ (hw _ (List.mem_of_getElem? (i := 0) rfl))) (g := (mkF m 1 #[.val (.long q1), .second, .val (.int p2), .unset, .unset, .unset, .unset, .unset, .unset, .unset, .unset, .unset] [(.long q1)])) rfl (hb hby at_1) _ ?_
    show Steps p.tables e below (s₁.setTop (mkF m 4 #[.val (.long q1), .second, .val (.int p2), .unset, .unset, .unset, .unset, .unset, .unset, .unset, .unset, .unset] [(.long (9223372036854775807 : Int64)), (.long q1)])) _
    refine XS.land X0.here hx rfl (hb hby at_4) rfl ?_
    show Steps p.tables e below (s₁.setTop (mkF m 5 #[.val (.long q1), .second, .val (.int p2), .unset, .unset, .unset, .unset, .unset, .unset, .unset, .unset, .unset] [(.long (q1 &&& (9223372036854775807 : Int64)))])) _
    refine X0.ldc2Long hx hown (mvT hZ (hw _ (List.mem_of_getElem? (i := 1) rfl))) (g := (mkF m 5 #[.val (.long q1), .second, .val (.int p2), .unset, .unset, .unset, .unset, .unset, .unset, .unset, .unset, .unset] [(.long (q1 &&& (9223372036854775807 : Int64)))])) rfl (hb hby at_5) _ ?_
    show Steps p.tables e below (s₁.setTop (mkF m 8 #[.val (.long q1), .second, .val (.int p2), .unset, .unset, .unset, .unset, .unset, .unset, .unset, .unset, .unset] [(.long (1000000000000 : Int64)), (.long (q1 &&& (9223372036854775807 : Int64)))])) _
    refine XS.lrem X0.here hx rfl (hb hby at_8) rfl (by decide) ?_
    show Steps p.tables e below (s₁.setTop (mkF m 9 #[.val (.long q1), .second, .val (.int p2), .unset, .unset, .unset, .unset, .unset, .unset, .unset, .unset, .unset] [(.long ((q1 &&& (9223372036854775807 : Int64)) - ((q1 &&& (9223372036854775807 : Int64)) / (1000000000000 : Int64)) * (1000000000000 : Int64)))])) _
    refine XS.lstoreN X0.here hx rfl (hb hby at_9) rfl (l' := #[.val (.long q1), .second, .val (.int p2), .val (.long ((q1 &&& (9223372036854775807 : Int64)) - ((q1 &&& (9223372036854775807 : Int64)) / (1000000000000 : Int64)) * (1000000000000 : Int64))), .second, .unset, .unset, .unset, .unset, .unset, .unset, .unset]) rfl ?_
    exact k)
  obtain ⟨am, hd_am⟩ : ∃ z : Int64, z = ((q1 &&& (9223372036854775807 : Int64)) - ((q1 &&& (9223372036854775807 : Int64)) / (1000000000000 : Int64)) * (1000000000000 : Int64)) := ⟨_, rfl⟩
  have k2 : ∀ t, Steps p.tables e below (s₁.setTop (mkF m 10 #[.val (.long q1), .second, .val (.int p2), .val (.long am), .second, .unset, .unset, .unset, .unset, .unset, .unset, .unset] [])) t → Steps p.tables e below (s₁.setTop (entryFrame m #[(.long q1), (.int p2)] maxLocals)) t := by rw [hd_am]; exact k1
  have am0 : 0 ≤ am.toInt := by rw [hd_am]; exact (own_am q1).1
  have am1 : am.toInt ≤ 999999999999 := by rw [hd_am]; exact (own_am q1).2
  have k3 : ∀ t, Steps p.tables e below (s₁.setTop (mkF m 20 #[.val (.long q1), .second, .val (.int p2), .val (.long am), .second, .val (.int ((p2 &&& (2147483647 : Int32)) - ((p2 &&& (2147483647 : Int32)) / (10001 : Int32)) * (10001 : Int32))), .unset, .unset, .unset, .unset, .unset, .unset] [])) t → Steps p.tables e below (s₁.setTop (entryFrame m #[(.long q1), (.int p2)] maxLocals)) t := fun t k => k2 t (by
    show Steps p.tables e below (s₁.setTop (mkF m 10 #[.val (.long q1), .second, .val (.int p2), .val (.long am), .second, .unset, .unset, .unset, .unset, .unset, .unset, .unset] [])) _
    refine XS.iloadN X0.here hx rfl (hb hby at_10) rfl ?_
    show Steps p.tables e below (s₁.setTop (mkF m 11 #[.val (.long q1), .second, .val (.int p2), .val (.long am), .second, .unset, .unset, .unset, .unset, .unset, .unset, .unset] [(.int p2)])) _
    refine X0.ldcInt hx hown (mvT hZ (hw _ (List.mem_of_getElem? (i := 2) rfl))) (g := (mkF m 11 #[.val (.long q1), .second, .val (.int p2), .val (.long am), .second, .unset, .unset, .unset, .unset, .unset, .unset, .unset] [(.int p2)])) rfl (hb hby at_11) _ ?_
    show Steps p.tables e below (s₁.setTop (mkF m 13 #[.val (.long q1), .second, .val (.int p2), .val (.long am), .second, .unset, .unset, .unset, .unset, .unset, .unset, .unset] [(.int (2147483647 : Int32)), (.int p2)])) _
    refine XS.iand X0.here hx rfl (hb hby at_13) rfl ?_
    show Steps p.tables e below (s₁.setTop (mkF m 14 #[.val (.long q1), .second, .val (.int p2), .val (.long am), .second, .unset, .unset, .unset, .unset, .unset, .unset, .unset] [(.int (p2 &&& (2147483647 : Int32)))])) _
    refine XS.sipush X0.here hx rfl (hb hby at_14) ?_
    show Steps p.tables e below (s₁.setTop (mkF m 17 #[.val (.long q1), .second, .val (.int p2), .val (.long am), .second, .unset, .unset, .unset, .unset, .unset, .unset, .unset] [(.int (10001 : Int32)), (.int (p2 &&& (2147483647 : Int32)))])) _
    refine XS.irem X0.here hx rfl (hb hby at_17) rfl (by decide) ?_
    show Steps p.tables e below (s₁.setTop (mkF m 18 #[.val (.long q1), .second, .val (.int p2), .val (.long am), .second, .unset, .unset, .unset, .unset, .unset, .unset, .unset] [(.int ((p2 &&& (2147483647 : Int32)) - ((p2 &&& (2147483647 : Int32)) / (10001 : Int32)) * (10001 : Int32)))])) _
    refine XS.istore X0.here hx rfl (hb hby at_18) rfl (l' := #[.val (.long q1), .second, .val (.int p2), .val (.long am), .second, .val (.int ((p2 &&& (2147483647 : Int32)) - ((p2 &&& (2147483647 : Int32)) / (10001 : Int32)) * (10001 : Int32))), .unset, .unset, .unset, .unset, .unset, .unset]) rfl ?_
    exact k)
  obtain ⟨bp, hd_bp⟩ : ∃ z : Int32, z = ((p2 &&& (2147483647 : Int32)) - ((p2 &&& (2147483647 : Int32)) / (10001 : Int32)) * (10001 : Int32)) := ⟨_, rfl⟩
  have k4 : ∀ t, Steps p.tables e below (s₁.setTop (mkF m 20 #[.val (.long q1), .second, .val (.int p2), .val (.long am), .second, .val (.int bp), .unset, .unset, .unset, .unset, .unset, .unset] [])) t → Steps p.tables e below (s₁.setTop (entryFrame m #[(.long q1), (.int p2)] maxLocals)) t := by rw [hd_bp]; exact k3
  have bp0 : 0 ≤ bp.toInt := by rw [hd_bp]; exact (own_bp p2).1
  have bp1 : bp.toInt ≤ 10000 := by rw [hd_bp]; exact (own_bp p2).2
  obtain ⟨dv1, dv2, -⟩ := own_div am bp am0 am1 bp0 bp1
  obtain ⟨_, _, ⟨T5, L5, kk5, n5⟩, -, X5, ⟨Lc5, hQ5, l5, y5, z5⟩, st5⟩ := Jvm.LawKit.callS X0 hx (y := (⟨"com/example/tillstone/tillstone/Money", "fee", "(JI)J"⟩ : MethodName)) hown (mvT hZ (hw _ (List.mem_of_getElem? (i := 3) rfl))) (mvT hZ (hw _ (List.mem_of_getElem? (i := 4) rfl))) (mvT hZ (hw _ (List.mem_of_getElem? (i := 5) rfl))) (mvT hZ (hw _ (List.mem_of_getElem? (i := 6) rfl))) (by decide) (backOf (W := 0) (rm_fee l Z a0 hw [] am bp h0 n0 Z0 dv1 dv2) hZ (hw _ (List.mem_of_getElem? (i := 6) rfl)) (hw _ (List.mem_of_getElem? (i := 5) rfl)) (by decide) (by decide)) (g := (mkF m 23 #[.val (.long q1), .second, .val (.int p2), .val (.long am), .second, .val (.int bp), .unset, .unset, .unset, .unset, .unset, .unset] [(.int bp), (.long am)])) rfl (by rw [hml]; rfl) (argsL := [(.long am), (.int bp)]) (rest := []) (lenOf pd__JI_J rfl) rfl (by show 2 * 0 + _ ≤ _; exact Nat.le_of_eq rfl) (hb hby at_23) (fun _ _ => ⟨rfl, e0, (by decide : 0 + 0 ≤ _), (by decide : 0 + 0 ≤ _)⟩)
  dsimp only [Pt.U, Pt.locs, Pt.cells, Pt.slots] at X5 l5 y5 z5 st5 hQ5
  subst l5 y5 z5
  obtain ⟨rfl, N5q, qa⟩ := hQ5
  have N5 := Fr.app N0 N5q
  have k6 : ∀ t, Steps p.tables e below (T5.setTop (mkF m 28 #[.val (.long q1), .second, .val (.int p2), .val (.long am), .second, .val (.int bp), .val (.long (((am * (bp.toInt64)) + (5000 : Int64)) / (10000 : Int64))), .second, .unset, .unset, .unset, .unset] [])) t → Steps p.tables e below (s₁.setTop (entryFrame m #[(.long q1), (.int p2)] maxLocals)) t := fun t k => k4 t (by
    show Steps p.tables e below (s₁.setTop (mkF m 20 #[.val (.long q1), .second, .val (.int p2), .val (.long am), .second, .val (.int bp), .unset, .unset, .unset, .unset, .unset, .unset] [])) _
    refine XS.lloadN X0.here hx rfl (hb hby at_20) rfl ?_
    show Steps p.tables e below (s₁.setTop (mkF m 21 #[.val (.long q1), .second, .val (.int p2), .val (.long am), .second, .val (.int bp), .unset, .unset, .unset, .unset, .unset, .unset] [(.long am)])) _
    refine XS.iload X0.here hx rfl (hb hby at_21) rfl ?_
    show Steps p.tables e below (s₁.setTop (mkF m 23 #[.val (.long q1), .second, .val (.int p2), .val (.long am), .second, .val (.int bp), .unset, .unset, .unset, .unset, .unset, .unset] [(.int bp), (.long am)])) _
    refine st5 _ ?_
    show Steps p.tables e below (T5.setTop (mkF m 26 #[.val (.long q1), .second, .val (.int p2), .val (.long am), .second, .val (.int bp), .unset, .unset, .unset, .unset, .unset, .unset] [(.long (((am * (bp.toInt64)) + (5000 : Int64)) / (10000 : Int64)))])) _
    refine XS.lstore X5.here hx rfl (hb hby at_26) rfl (l' := #[.val (.long q1), .second, .val (.int p2), .val (.long am), .second, .val (.int bp), .val (.long (((am * (bp.toInt64)) + (5000 : Int64)) / (10000 : Int64))), .second, .unset, .unset, .unset, .unset]) rfl ?_
    exact k)
  obtain ⟨ff, hd_ff⟩ : ∃ z : Int64, z = (((am * (bp.toInt64)) + (5000 : Int64)) / (10000 : Int64)) := ⟨_, rfl⟩
  have k7 : ∀ t, Steps p.tables e below (T5.setTop (mkF m 28 #[.val (.long q1), .second, .val (.int p2), .val (.long am), .second, .val (.int bp), .val (.long ff), .second, .unset, .unset, .unset, .unset] [])) t → Steps p.tables e below (s₁.setTop (entryFrame m #[(.long q1), (.int p2)] maxLocals)) t := by rw [hd_ff]; exact k6
  have k8 : ∀ t, Steps p.tables e below (T5.setTop (mkF m 35 #[.val (.long q1), .second, .val (.int p2), .val (.long am), .second, .val (.int bp), .val (.long ff), .second, .val (.long (am * (bp.toInt64))), .second, .unset, .unset] [])) t → Steps p.tables e below (s₁.setTop (entryFrame m #[(.long q1), (.int p2)] maxLocals)) t := fun t k => k7 t (by
    show Steps p.tables e below (T5.setTop (mkF m 28 #[.val (.long q1), .second, .val (.int p2), .val (.long am), .second, .val (.int bp), .val (.long ff), .second, .unset, .unset, .unset, .unset] [])) _
    refine XS.lloadN X5.here hx rfl (hb hby at_28) rfl ?_
    show Steps p.tables e below (T5.setTop (mkF m 29 #[.val (.long q1), .second, .val (.int p2), .val (.long am), .second, .val (.int bp), .val (.long ff), .second, .unset, .unset, .unset, .unset] [(.long am)])) _
    refine XS.iload X5.here hx rfl (hb hby at_29) rfl ?_
    show Steps p.tables e below (T5.setTop (mkF m 31 #[.val (.long q1), .second, .val (.int p2), .val (.long am), .second, .val (.int bp), .val (.long ff), .second, .unset, .unset, .unset, .unset] [(.int bp), (.long am)])) _
    refine XS.i2l X5.here hx rfl (hb hby at_31) rfl ?_
    show Steps p.tables e below (T5.setTop (mkF m 32 #[.val (.long q1), .second, .val (.int p2), .val (.long am), .second, .val (.int bp), .val (.long ff), .second, .unset, .unset, .unset, .unset] [(.long (bp.toInt64)), (.long am)])) _
    refine XS.lmul X5.here hx rfl (hb hby at_32) rfl ?_
    show Steps p.tables e below (T5.setTop (mkF m 33 #[.val (.long q1), .second, .val (.int p2), .val (.long am), .second, .val (.int bp), .val (.long ff), .second, .unset, .unset, .unset, .unset] [(.long (am * (bp.toInt64)))])) _
    refine XS.lstore X5.here hx rfl (hb hby at_33) rfl (l' := #[.val (.long q1), .second, .val (.int p2), .val (.long am), .second, .val (.int bp), .val (.long ff), .second, .val (.long (am * (bp.toInt64))), .second, .unset, .unset]) rfl ?_
    exact k)
  obtain ⟨pp, hd_pp⟩ : ∃ z : Int64, z = (am * (bp.toInt64)) := ⟨_, rfl⟩
  have k9 : ∀ t, Steps p.tables e below (T5.setTop (mkF m 35 #[.val (.long q1), .second, .val (.int p2), .val (.long am), .second, .val (.int bp), .val (.long ff), .second, .val (.long pp), .second, .unset, .unset] [])) t → Steps p.tables e below (s₁.setTop (entryFrame m #[(.long q1), (.int p2)] maxLocals)) t := by rw [hd_pp]; exact k8
  obtain ⟨f1, f2, f3, f4⟩ := own_fee am bp am0 am1 bp0 bp1 ff pp hd_ff hd_pp
  have k11 : ∀ t, Steps p.tables e below (T5.setTop (mkF m 110 #[.val (.long q1), .second, .val (.int p2), .val (.long am), .second, .val (.int bp), .val (.long ff), .second, .val (.long pp), .second, .val (.int (1 : Int32)), .val (.int (1 : Int32))] [(.int (1 : Int32))])) t → Steps p.tables e below (s₁.setTop (entryFrame m #[(.long q1), (.int p2)] maxLocals)) t := fun t k => k9 t (by
    show Steps p.tables e below (T5.setTop (mkF m 35 #[.val (.long q1), .second, .val (.int p2), .val (.long am), .second, .val (.int bp), .val (.long ff), .second, .val (.long pp), .second, .unset, .unset] [])) _
    refine X5.ldc2Long hx hown (mvT hZ (hw _ (List.mem_of_getElem? (i := 16) rfl))) (g := (mkF m 35 #[.val (.long q1), .second, .val (.int p2), .val (.long am), .second, .val (.int bp), .val (.long ff), .second, .val (.long pp), .second, .unset, .unset] [])) rfl (hb hby at_35) _ ?_
    show Steps p.tables e below (T5.setTop (mkF m 38 #[.val (.long q1), .second, .val (.int p2), .val (.long am), .second, .val (.int bp), .val (.long ff), .second, .val (.long pp), .second, .unset, .unset] [(.long (10000 : Int64))])) _
    refine XS.lload X5.here hx rfl (hb hby at_38) rfl ?_
    show Steps p.tables e below (T5.setTop (mkF m 40 #[.val (.long q1), .second, .val (.int p2), .val (.long am), .second, .val (.int bp), .val (.long ff), .second, .val (.long pp), .second, .unset, .unset] [(.long ff), (.long (10000 : Int64))])) _
    refine XS.lmul X5.here hx rfl (hb hby at_40) rfl ?_
    show Steps p.tables e below (T5.setTop (mkF m 41 #[.val (.long q1), .second, .val (.int p2), .val (.long am), .second, .val (.int bp), .val (.long ff), .second, .val (.long pp), .second, .unset, .unset] [(.long ((10000 : Int64) * ff))])) _
    refine X5.ldc2Long hx hown (mvT hZ (hw _ (List.mem_of_getElem? (i := 17) rfl))) (g := (mkF m 41 #[.val (.long q1), .second, .val (.int p2), .val (.long am), .second, .val (.int bp), .val (.long ff), .second, .val (.long pp), .second, .unset, .unset] [(.long ((10000 : Int64) * ff))])) rfl (hb hby at_41) _ ?_
    show Steps p.tables e below (T5.setTop (mkF m 44 #[.val (.long q1), .second, .val (.int p2), .val (.long am), .second, .val (.int bp), .val (.long ff), .second, .val (.long pp), .second, .unset, .unset] [(.long (5000 : Int64)), (.long ((10000 : Int64) * ff))])) _
    refine XS.lsub X5.here hx rfl (hb hby at_44) rfl ?_
    show Steps p.tables e below (T5.setTop (mkF m 45 #[.val (.long q1), .second, .val (.int p2), .val (.long am), .second, .val (.int bp), .val (.long ff), .second, .val (.long pp), .second, .unset, .unset] [(.long (((10000 : Int64) * ff) - (5000 : Int64)))])) _
    refine XS.lload X5.here hx rfl (hb hby at_45) rfl ?_
    show Steps p.tables e below (T5.setTop (mkF m 47 #[.val (.long q1), .second, .val (.int p2), .val (.long am), .second, .val (.int bp), .val (.long ff), .second, .val (.long pp), .second, .unset, .unset] [(.long pp), (.long (((10000 : Int64) * ff) - (5000 : Int64)))])) _
    refine XS.lcmp X5.here hx rfl (hb hby at_47) rfl ?_
    show Steps p.tables e below (T5.setTop (mkF m 48 #[.val (.long q1), .second, .val (.int p2), .val (.long am), .second, .val (.int bp), .val (.long ff), .second, .val (.long pp), .second, .unset, .unset] [(.int (lcmpW (((10000 : Int64) * ff) - (5000 : Int64)) pp))])) _
    refine XS.ifNo X5.here hx rfl (hb hby at_48) rfl ((if0 _ _).trans (flt (fun q => f1 ((lw_gt (((10000 : Int64) * ff) - (5000 : Int64)) pp).mp q))).2.2.1) ?_
    show Steps p.tables e below (T5.setTop (mkF m 51 #[.val (.long q1), .second, .val (.int p2), .val (.long am), .second, .val (.int bp), .val (.long ff), .second, .val (.long pp), .second, .unset, .unset] [])) _
    refine XS.lload X5.here hx rfl (hb hby at_51) rfl ?_
    show Steps p.tables e below (T5.setTop (mkF m 53 #[.val (.long q1), .second, .val (.int p2), .val (.long am), .second, .val (.int bp), .val (.long ff), .second, .val (.long pp), .second, .unset, .unset] [(.long pp)])) _
    refine X5.ldc2Long hx hown (mvT hZ (hw _ (List.mem_of_getElem? (i := 16) rfl))) (g := (mkF m 53 #[.val (.long q1), .second, .val (.int p2), .val (.long am), .second, .val (.int bp), .val (.long ff), .second, .val (.long pp), .second, .unset, .unset] [(.long pp)])) rfl (hb hby at_53) _ ?_
    show Steps p.tables e below (T5.setTop (mkF m 56 #[.val (.long q1), .second, .val (.int p2), .val (.long am), .second, .val (.int bp), .val (.long ff), .second, .val (.long pp), .second, .unset, .unset] [(.long (10000 : Int64)), (.long pp)])) _
    refine XS.lload X5.here hx rfl (hb hby at_56) rfl ?_
    show Steps p.tables e below (T5.setTop (mkF m 58 #[.val (.long q1), .second, .val (.int p2), .val (.long am), .second, .val (.int bp), .val (.long ff), .second, .val (.long pp), .second, .unset, .unset] [(.long ff), (.long (10000 : Int64)), (.long pp)])) _
    refine XS.lmul X5.here hx rfl (hb hby at_58) rfl ?_
    show Steps p.tables e below (T5.setTop (mkF m 59 #[.val (.long q1), .second, .val (.int p2), .val (.long am), .second, .val (.int bp), .val (.long ff), .second, .val (.long pp), .second, .unset, .unset] [(.long ((10000 : Int64) * ff)), (.long pp)])) _
    refine X5.ldc2Long hx hown (mvT hZ (hw _ (List.mem_of_getElem? (i := 17) rfl))) (g := (mkF m 59 #[.val (.long q1), .second, .val (.int p2), .val (.long am), .second, .val (.int bp), .val (.long ff), .second, .val (.long pp), .second, .unset, .unset] [(.long ((10000 : Int64) * ff)), (.long pp)])) rfl (hb hby at_59) _ ?_
    show Steps p.tables e below (T5.setTop (mkF m 62 #[.val (.long q1), .second, .val (.int p2), .val (.long am), .second, .val (.int bp), .val (.long ff), .second, .val (.long pp), .second, .unset, .unset] [(.long (5000 : Int64)), (.long ((10000 : Int64) * ff)), (.long pp)])) _
    refine XS.ladd X5.here hx rfl (hb hby at_62) rfl ?_
    show Steps p.tables e below (T5.setTop (mkF m 63 #[.val (.long q1), .second, .val (.int p2), .val (.long am), .second, .val (.int bp), .val (.long ff), .second, .val (.long pp), .second, .unset, .unset] [(.long (((10000 : Int64) * ff) + (5000 : Int64))), (.long pp)])) _
    refine XS.lcmp X5.here hx rfl (hb hby at_63) rfl ?_
    show Steps p.tables e below (T5.setTop (mkF m 64 #[.val (.long q1), .second, .val (.int p2), .val (.long am), .second, .val (.int bp), .val (.long ff), .second, .val (.long pp), .second, .unset, .unset] [(.int (lcmpW pp (((10000 : Int64) * ff) + (5000 : Int64))))])) _
    refine XS.ifNo X5.here hx rfl (hb hby at_64) rfl ((if0 _ _).trans (tlt ((lw_lt pp (((10000 : Int64) * ff) + (5000 : Int64))).mpr f2)).2.1) ?_
    show Steps p.tables e below (T5.setTop (mkF m 67 #[.val (.long q1), .second, .val (.int p2), .val (.long am), .second, .val (.int bp), .val (.long ff), .second, .val (.long pp), .second, .unset, .unset] [])) _
    refine XS.iconst X5.here hx rfl (hb hby at_67) ?_
    show Steps p.tables e below (T5.setTop (mkF m 68 #[.val (.long q1), .second, .val (.int p2), .val (.long am), .second, .val (.int bp), .val (.long ff), .second, .val (.long pp), .second, .unset, .unset] [(.int (1 : Int32))])) _
    refine XS.goto X5.here hx rfl (pc0 := 68) (pc' := 72) rfl (hb hby at_68) (by decide) (by decide) ?_
    show Steps p.tables e below (T5.setTop (mkF m 72 #[.val (.long q1), .second, .val (.int p2), .val (.long am), .second, .val (.int bp), .val (.long ff), .second, .val (.long pp), .second, .unset, .unset] [(.int (1 : Int32))])) _
    refine XS.istore X5.here hx rfl (hb hby at_72) rfl (l' := #[.val (.long q1), .second, .val (.int p2), .val (.long am), .second, .val (.int bp), .val (.long ff), .second, .val (.long pp), .second, .val (.int (1 : Int32)), .unset]) rfl ?_
    show Steps p.tables e below (T5.setTop (mkF m 74 #[.val (.long q1), .second, .val (.int p2), .val (.long am), .second, .val (.int bp), .val (.long ff), .second, .val (.long pp), .second, .val (.int (1 : Int32)), .unset] [])) _
    refine XS.lconst X5.here hx rfl (hb hby at_74) ?_
    show Steps p.tables e below (T5.setTop (mkF m 75 #[.val (.long q1), .second, .val (.int p2), .val (.long am), .second, .val (.int bp), .val (.long ff), .second, .val (.long pp), .second, .val (.int (1 : Int32)), .unset] [(.long (0 : Int64))])) _
    refine XS.lload X5.here hx rfl (hb hby at_75) rfl ?_
    show Steps p.tables e below (T5.setTop (mkF m 77 #[.val (.long q1), .second, .val (.int p2), .val (.long am), .second, .val (.int bp), .val (.long ff), .second, .val (.long pp), .second, .val (.int (1 : Int32)), .unset] [(.long ff), (.long (0 : Int64))])) _
    refine XS.lcmp X5.here hx rfl (hb hby at_77) rfl ?_
    show Steps p.tables e below (T5.setTop (mkF m 78 #[.val (.long q1), .second, .val (.int p2), .val (.long am), .second, .val (.int bp), .val (.long ff), .second, .val (.long pp), .second, .val (.int (1 : Int32)), .unset] [(.int (lcmpW (0 : Int64) ff))])) _
    refine XS.ifNo X5.here hx rfl (hb hby at_78) rfl ((if0 _ _).trans (flt (fun q => f3 ((lw_gt (0 : Int64) ff).mp q))).2.2.1) ?_
    show Steps p.tables e below (T5.setTop (mkF m 81 #[.val (.long q1), .second, .val (.int p2), .val (.long am), .second, .val (.int bp), .val (.long ff), .second, .val (.long pp), .second, .val (.int (1 : Int32)), .unset] [])) _
    refine XS.lload X5.here hx rfl (hb hby at_81) rfl ?_
    show Steps p.tables e below (T5.setTop (mkF m 83 #[.val (.long q1), .second, .val (.int p2), .val (.long am), .second, .val (.int bp), .val (.long ff), .second, .val (.long pp), .second, .val (.int (1 : Int32)), .unset] [(.long ff)])) _
    refine XS.lloadN X5.here hx rfl (hb hby at_83) rfl ?_
    show Steps p.tables e below (T5.setTop (mkF m 84 #[.val (.long q1), .second, .val (.int p2), .val (.long am), .second, .val (.int bp), .val (.long ff), .second, .val (.long pp), .second, .val (.int (1 : Int32)), .unset] [(.long am), (.long ff)])) _
    refine XS.lcmp X5.here hx rfl (hb hby at_84) rfl ?_
    show Steps p.tables e below (T5.setTop (mkF m 85 #[.val (.long q1), .second, .val (.int p2), .val (.long am), .second, .val (.int bp), .val (.long ff), .second, .val (.long pp), .second, .val (.int (1 : Int32)), .unset] [(.int (lcmpW ff am))])) _
    refine XS.ifNo X5.here hx rfl (hb hby at_85) rfl ((if0 _ _).trans (flt (fun q => f4 ((lw_gt ff am).mp q))).2.2.1) ?_
    show Steps p.tables e below (T5.setTop (mkF m 88 #[.val (.long q1), .second, .val (.int p2), .val (.long am), .second, .val (.int bp), .val (.long ff), .second, .val (.long pp), .second, .val (.int (1 : Int32)), .unset] [])) _
    refine XS.iconst X5.here hx rfl (hb hby at_88) ?_
    show Steps p.tables e below (T5.setTop (mkF m 89 #[.val (.long q1), .second, .val (.int p2), .val (.long am), .second, .val (.int bp), .val (.long ff), .second, .val (.long pp), .second, .val (.int (1 : Int32)), .unset] [(.int (1 : Int32))])) _
    refine XS.goto X5.here hx rfl (pc0 := 89) (pc' := 93) rfl (hb hby at_89) (by decide) (by decide) ?_
    show Steps p.tables e below (T5.setTop (mkF m 93 #[.val (.long q1), .second, .val (.int p2), .val (.long am), .second, .val (.int bp), .val (.long ff), .second, .val (.long pp), .second, .val (.int (1 : Int32)), .unset] [(.int (1 : Int32))])) _
    refine XS.istore X5.here hx rfl (hb hby at_93) rfl (l' := #[.val (.long q1), .second, .val (.int p2), .val (.long am), .second, .val (.int bp), .val (.long ff), .second, .val (.long pp), .second, .val (.int (1 : Int32)), .val (.int (1 : Int32))]) rfl ?_
    show Steps p.tables e below (T5.setTop (mkF m 95 #[.val (.long q1), .second, .val (.int p2), .val (.long am), .second, .val (.int bp), .val (.long ff), .second, .val (.long pp), .second, .val (.int (1 : Int32)), .val (.int (1 : Int32))] [])) _
    refine XS.iload X5.here hx rfl (hb hby at_95) rfl ?_
    show Steps p.tables e below (T5.setTop (mkF m 97 #[.val (.long q1), .second, .val (.int p2), .val (.long am), .second, .val (.int bp), .val (.long ff), .second, .val (.long pp), .second, .val (.int (1 : Int32)), .val (.int (1 : Int32))] [(.int (1 : Int32))])) _
    refine XS.ifNo X5.here hx rfl (hb hby at_97) rfl ((if0 _ _).trans (feq (by decide)).1) ?_
    show Steps p.tables e below (T5.setTop (mkF m 100 #[.val (.long q1), .second, .val (.int p2), .val (.long am), .second, .val (.int bp), .val (.long ff), .second, .val (.long pp), .second, .val (.int (1 : Int32)), .val (.int (1 : Int32))] [])) _
    refine XS.iload X5.here hx rfl (hb hby at_100) rfl ?_
    show Steps p.tables e below (T5.setTop (mkF m 102 #[.val (.long q1), .second, .val (.int p2), .val (.long am), .second, .val (.int bp), .val (.long ff), .second, .val (.long pp), .second, .val (.int (1 : Int32)), .val (.int (1 : Int32))] [(.int (1 : Int32))])) _
    refine XS.ifNo X5.here hx rfl (hb hby at_102) rfl ((if0 _ _).trans (feq (by decide)).1) ?_
    show Steps p.tables e below (T5.setTop (mkF m 105 #[.val (.long q1), .second, .val (.int p2), .val (.long am), .second, .val (.int bp), .val (.long ff), .second, .val (.long pp), .second, .val (.int (1 : Int32)), .val (.int (1 : Int32))] [])) _
    refine XS.iconst X5.here hx rfl (hb hby at_105) ?_
    show Steps p.tables e below (T5.setTop (mkF m 106 #[.val (.long q1), .second, .val (.int p2), .val (.long am), .second, .val (.int bp), .val (.long ff), .second, .val (.long pp), .second, .val (.int (1 : Int32)), .val (.int (1 : Int32))] [(.int (1 : Int32))])) _
    refine XS.goto X5.here hx rfl (pc0 := 106) (pc' := 110) rfl (hb hby at_106) (by decide) (by decide) ?_
    exact k)
  obtain ⟨fs, hr, hrun, hended, hW, hsame⟩ := X5.leave (v := some (.int (1 : Int32))) (fun h => by rw [Bd.returns] at h; cases h)
  refine ⟨_, _, k11 _ ?_, hrun, hended, _, _, rfl, ?_, ⟨_, rfl⟩, hW, hsame.mono (by decide) (by decide)⟩
  · show Steps p.tables e below (T5.setTop (mkF m 110 #[.val (.long q1), .second, .val (.int p2), .val (.long am), .second, .val (.int bp), .val (.long ff), .second, .val (.long pp), .second, .val (.int (1 : Int32)), .val (.int (1 : Int32))] [(.int (1 : Int32))])) _
    exact retN X5 hx (t := .boolean) Bd.returns (by simp) (hb hby at_110) hr
  ·
    show Qlaw _ q1 p2 h0 n0 _ T5.heap _
    rw [qa]
    exact ⟨rfl, N5⟩
set_option maxRecDepth 65536 in
set_option maxHeartbeats 40000000 in
theorem comes_1 {Post : Tables → Env → Array Value → State → Outcome → State → Prop} (hpost : ∀ tb e args s v u, (limb_1_1.after args s (.returned v) u = true ∧ limb_1_2.after args s (.returned v) u = true ∧ True) → FrameEnd s (.returned v) u (Jvm.fieldLocs frame_1_writes args s ++ Jvm.arrayLocs frame_1_arrays args s ++ Jvm.staticLocs frame_1_statics s) 0 0 → Post tb e args s (.returned v) u) :
    ArmFor flags0 classFile x code maxLocals ret World_1 tables_1 room_1 Calls_1 rest_1 Pre_1 Post := by
  intro l hfl _ _ p e ha hc hk s m args below hf hA hF happ hP
  obtain ⟨hcalls, hrest, hpre⟩ := hP
  obtain ⟨-, -, -, hnamed, -, -, -, hat⟩ := (Spec.applies_iff hf).mp happ
  obtain ⟨hg, hn⟩ := and_e (Cond.before_iff.mp (show (Jvm.Cond.and given_1 narrow_1).before args s = true from hpre))
  obtain ⟨g1, g2⟩ := and_e hg
  obtain ⟨g3, g4⟩ := and_e g2
  obtain ⟨w0, w1, rfl⟩ : ∃ w0 w1 : Value, args = #[w0, w1] := by
    have hs : args.size = 2 := by simpa [Cond.value, given_1] using g1
    obtain ⟨L⟩ := args
    match L, hs with
    | [w0, w1], _ => exact ⟨w0, w1, rfl⟩
  have hw := fun d (hd : d ∈ tables_1) => atoms_spec (ws := Jvm.Cond.code x code maxLocals ret :: tables_1) hat d (List.mem_cons_of_mem _ hd)
  have hfit : Fit s := fun {y c} hc i hi => by
    obtain ⟨ha, rfl⟩ := Array.getElem?_eq_some_iff.mp hc
    have q := List.all_eq_true.mp ((Array.all_eq_true_iff_forall_mem.mp hF) _ (Array.getElem_mem ha)) i (List.mem_range.mpr hi)
    simpa [Array.getElem?_eq_getElem hi] using q
  obtain ⟨i0, ei0⟩ := isL_v g3
  obtain rfl : w0 = (.long i0) := Option.some.inj ei0
  obtain ⟨i1, ei1⟩ := is_v g4
  obtain rfl : w1 = (.int i1) := Option.some.inj ei1
  obtain ⟨n, o, h1, h2, h3, _, L, rfl, ⟨rfl, N⟩, hq⟩ := rm_law l s _ hw tables_1 i0 i1  s.heap s.heap.size (Nat.le_refl _)  p e ha hc hk s m _ below hf ((Spec.applies_iff_loose hf).mp happ).1 ⟨rfl, State.Warmed39.refl s, rfl⟩ trivial
  refine ⟨n, _, h1, h2, h3, hpost _ _ _ _ _ _ ⟨Cond.after_iff.mpr rfl, Cond.after_iff.mpr (eq_i res_at (Term.int_eval (1)) rfl), trivial⟩ ⟨hq.1, hq.2.1, (hq.2.2.sift fun y hy => Or.inr (N y hy)).mono (by decide) (by decide)⟩⟩
theorem main_1_1 : Claimed_1_1 := comes_1 fun _ _ _ _ _ _ h hF => ⟨h.1, hF⟩
theorem main_1_2 : Claimed_1_2 := comes_1 fun _ _ _ _ _ _ h hF => ⟨h.2.1, hF⟩
end Jvm.Pilot.@@N@@
namespace Jvm.Pilot.@@N@@
open Jvm Jvm.ClassFile Sem Op Lib Jvm.Free Jvm.Stand Jvm.Pilot.@@N@@.Jvm.D
/-! MADE BY PROGRAM (witnessworld.py) out of the Statement's table words and the real class files: 10 classes; the members and pool entries that the words name. The judged class is class 1, her method 1. -/
namespace start1
open Jvm.ClassFile
def u (s : String) : CpInfo := .utf8 (stringToUtf16 s)
/-- a pool by its gaps: so many unusable entries, then the entry; so many at the end -/
def gap : Nat → List CpInfo → List CpInfo
  | 0, r => r
  | n + 1, r => .unusable :: gap n r
def poolList (es : List (Nat × CpInfo)) (last : Nat) : List CpInfo := es.foldr (fun e r => gap e.1 (e.2 :: r)) (gap last [])
def pool (es : List (Nat × CpInfo)) (last : Nat) : Array CpInfo := ⟨poolList es last⟩
def fileOf (pool : Array CpInfo) (this : Nat) (attrs : Array Attribute := #[]) (ms : Array MethodInfo := #[]) (fl : Nat := 33) (sup : Nat := 0) (ifs : Array Nat := #[]) (fds : Array FieldInfo := #[]) : ClassFile where
  minorVersion := 0
  majorVersion := 65
  constantPool := pool
  accessFlags := fl
  thisClass := this
  superClass := sup
  interfaces := ifs
  fields := fds
  methods := ms
  attributes := attrs
def plain (name : String) (sup : Option ClassId) : Class where
  name := name
  kind := .ordinary
  loader := none
  accessFlags := 33
  super := sup
  interfaces := #[]
  cf := none
  fields := #[]
  methods := #[]
  instanceTypes := #[]
  staticTypes := #[]
  resolved := #[]
  callSites := []
  init := .initialized
  statics := none
  mirror := none

def pool0 : Array CpInfo := pool [(5, u "<init>"), (0, u "()V"), (1, .class_ 10), (1, u "java/lang/Object")] 113

def k0m0 : Method := { name := "<init>", desc := "()V", sig := { parameters := [], returnType := none }, accessFlags := 1, code := none }
/-- java/lang/Object -/
def k0 : Class := { plain "java/lang/Object" none with
  accessFlags := 33
  interfaces := #[]
  cf := some (fileOf pool0 8 #[] #[{ accessFlags := 1, nameIndex := 5, descriptorIndex := 6, attributes := #[] }] 33 0 #[] #[])
  fields := #[]
  methods := #[k0m0]
  instanceTypes := #[]
  staticTypes := #[]
  resolved := Array.replicate 124 none
  statics := none }

def pool1 : Array CpInfo := pool [(2, .class_ 4), (1, u "java/lang/Object"), (0, u "<init>"), (0, u "()V"), (2, .long 9223372036854775807), (1, .class_ 12), (0, u "com/example/tillstone/tillstone/Money"), (0, .long 1000000000000), (1, .integer 2147483647), (0, .methodref 11 17), (0, .nameAndType 18 19), (0, u "fee"), (0, u "(JI)J"), (0, .long 10000), (1, .long 5000), (1, .class_ 25), (0, u "com/example/tillstone/tillstone/MoneyFeePinLaw"), (2, u "law"), (0, u "(JI)Z")] 3

def k1m0 : Method := { name := "<init>", desc := "()V", sig := { parameters := [], returnType := none }, accessFlags := 2, code := none }
def k1c1 : Code := { maxStack := 6, maxLocals := 12, code := code, exceptionTable := #[], attributes := #[] }
def k1m1 : Method := { name := "law", desc := "(JI)Z", sig := { parameters := [.long, .int], returnType := some .boolean }, accessFlags := 9, code := some k1c1 }
/-- com/example/tillstone/tillstone/MoneyFeePinLaw -/
def k1 : Class := { plain "com/example/tillstone/tillstone/MoneyFeePinLaw" (some 0) with
  accessFlags := 49
  interfaces := #[]
  cf := some (fileOf pool1 24 #[] #[{ accessFlags := 2, nameIndex := 5, descriptorIndex := 6, attributes := #[] }, { accessFlags := 9, nameIndex := 28, descriptorIndex := 29, attributes := #[] }] 49 2 #[] #[])
  fields := #[]
  methods := #[k1m0, k1m1]
  instanceTypes := #[]
  staticTypes := #[]
  resolved := Array.replicate 33 none
  statics := none }

def pool2 : Array CpInfo := pool [(2, .class_ 4), (1, u "java/lang/Object"), (0, u "<init>"), (0, u "()V"), (0, .methodref 8 9), (0, .class_ 10), (0, .nameAndType 11 12), (0, u "java/lang/Math"), (0, u "multiplyExact"), (0, u "(JJ)J"), (0, .class_ 14), (0, u "com/example/tillstone/tillstone/Money"), (0, .long 5000), (1, .long 10000), (30, u "CURRENCY_CODE"), (0, u "Ljava/util/regex/Pattern;"), (72, u "MAX_AMOUNT"), (0, u "J"), (3, u "BPS_PER_WHOLE"), (2, u "fee"), (0, u "(JI)J")] 28

def k2m0 : Method := { name := "<init>", desc := "()V", sig := { parameters := [], returnType := none }, accessFlags := 2, code := none }
def k2c1 : Code := { maxStack := 4, maxLocals := 3, code := prog_8_method_2_code, exceptionTable := #[], attributes := #[] }
def k2m1 : Method := { name := "fee", desc := "(JI)J", sig := { parameters := [.long, .int], returnType := some .long }, accessFlags := 8, code := some k2c1 }
/-- com/example/tillstone/tillstone/Money -/
def k2 : Class := { plain "com/example/tillstone/tillstone/Money" (some 0) with
  accessFlags := 49
  interfaces := #[]
  cf := some (fileOf pool2 13 #[] #[{ accessFlags := 2, nameIndex := 5, descriptorIndex := 6, attributes := #[] }, { accessFlags := 8, nameIndex := 130, descriptorIndex := 131, attributes := #[] }] 49 2 #[] #[{ accessFlags := 25, nameIndex := 122, descriptorIndex := 123, attributes := #[] }, { accessFlags := 26, nameIndex := 127, descriptorIndex := 123, attributes := #[] }, { accessFlags := 26, nameIndex := 48, descriptorIndex := 49, attributes := #[] }])
  fields := #[{ name := "MAX_AMOUNT", type := .long, accessFlags := 25, slot := 0, constantValue := 0 }, { name := "BPS_PER_WHOLE", type := .long, accessFlags := 26, slot := 1, constantValue := 0 }, { name := "CURRENCY_CODE", type := (.object "java/util/regex/Pattern"), accessFlags := 26, slot := 2, constantValue := 0 }]
  methods := #[k2m0, k2m1]
  instanceTypes := #[]
  staticTypes := #[.long, .long, (.object "java/util/regex/Pattern")]
  resolved := Array.replicate 160 none
  statics := none }

def pool3 : Array CpInfo := pool [(1, .class_ 2), (0, u "java/lang/Math"), (1, .class_ 6), (1, u "java/lang/Object"), (0, u "<init>"), (0, u "()V"), (89, .class_ 100), (1, u "java/lang/Math$RandomNumberGeneratorHolder"), (19, u "multiplyExact"), (0, u "(JJ)J"), (0, .methodref 1 123), (0, .nameAndType 124 125), (0, u "abs"), (0, u "(J)J"), (2, .long 9223372036854775808), (43, u "negativeZeroFloatBits"), (0, u "J"), (2, u "negativeZeroDoubleBits"), (68, u "$assertionsDisabled"), (0, u "Z"), (91, u "twoToTheDoubleScaleDown"), (0, u "D"), (4, u "twoToTheDoubleScaleUp"), (9, u "E"), (3, u "PI"), (2, u "TAU"), (2, u "DEGREES_TO_RADIANS"), (0, u "RADIANS_TO_DEGREES")] 94

def k3m0 : Method := { name := "<init>", desc := "()V", sig := { parameters := [], returnType := none }, accessFlags := 2, code := none }
def k3c1 : Code := { maxStack := 4, maxLocals := 10, code := jdk_29_method_30_code, exceptionTable := #[], attributes := #[] }
def k3m1 : Method := { name := "multiplyExact", desc := "(JJ)J", sig := { parameters := [.long, .long], returnType := some .long }, accessFlags := 9, code := some k3c1 }
def k3c2 : Code := { maxStack := 4, maxLocals := 2, code := jdk_29_method_61_code, exceptionTable := #[], attributes := #[] }
def k3m2 : Method := { name := "abs", desc := "(J)J", sig := { parameters := [.long], returnType := some .long }, accessFlags := 9, code := some k3c2 }
/-- java/lang/Math -/
def k3 : Class := { plain "java/lang/Math" (some 0) with
  accessFlags := 49
  interfaces := #[]
  cf := some (fileOf pool3 1 #[.nestMembers #[98]] #[{ accessFlags := 2, nameIndex := 7, descriptorIndex := 8, attributes := #[] }, { accessFlags := 9, nameIndex := 120, descriptorIndex := 121, attributes := #[] }, { accessFlags := 9, nameIndex := 124, descriptorIndex := 125, attributes := #[] }] 49 4 #[] #[{ accessFlags := 25, nameIndex := 354, descriptorIndex := 339, attributes := #[] }, { accessFlags := 25, nameIndex := 358, descriptorIndex := 339, attributes := #[] }, { accessFlags := 25, nameIndex := 361, descriptorIndex := 339, attributes := #[] }, { accessFlags := 26, nameIndex := 364, descriptorIndex := 339, attributes := #[] }, { accessFlags := 26, nameIndex := 365, descriptorIndex := 339, attributes := #[] }, { accessFlags := 26, nameIndex := 172, descriptorIndex := 173, attributes := #[] }, { accessFlags := 26, nameIndex := 176, descriptorIndex := 173, attributes := #[] }, { accessFlags := 8, nameIndex := 344, descriptorIndex := 339, attributes := #[] }, { accessFlags := 8, nameIndex := 338, descriptorIndex := 339, attributes := #[] }, { accessFlags := 4120, nameIndex := 245, descriptorIndex := 246, attributes := #[] }])
  fields := #[{ name := "E", type := .double, accessFlags := 25, slot := 0, constantValue := 0 }, { name := "PI", type := .double, accessFlags := 25, slot := 1, constantValue := 0 }, { name := "TAU", type := .double, accessFlags := 25, slot := 2, constantValue := 0 }, { name := "DEGREES_TO_RADIANS", type := .double, accessFlags := 26, slot := 3, constantValue := 0 }, { name := "RADIANS_TO_DEGREES", type := .double, accessFlags := 26, slot := 4, constantValue := 0 }, { name := "negativeZeroFloatBits", type := .long, accessFlags := 26, slot := 5, constantValue := 0 }, { name := "negativeZeroDoubleBits", type := .long, accessFlags := 26, slot := 6, constantValue := 0 }, { name := "twoToTheDoubleScaleUp", type := .double, accessFlags := 8, slot := 7, constantValue := 0 }, { name := "twoToTheDoubleScaleDown", type := .double, accessFlags := 8, slot := 8, constantValue := 0 }, { name := "$assertionsDisabled", type := .boolean, accessFlags := 4120, slot := 9, constantValue := 0 }]
  methods := #[k3m0, k3m1, k3m2]
  instanceTypes := #[]
  staticTypes := #[.double, .double, .double, .double, .double, .long, .long, .double, .double, .boolean]
  resolved := Array.replicate 460 none
  statics := none }

def pool4 : Array CpInfo := pool [(1, u "java/lang/Cloneable"), (0, .class_ 1), (0, u "java/lang/Object"), (0, .class_ 3)] 3

/-- java/lang/Cloneable -/
def k4 : Class := { plain "java/lang/Cloneable" (some 0) with
  accessFlags := 1537
  interfaces := #[]
  cf := some (fileOf pool4 2 #[] #[] 1537 4 #[] #[])
  fields := #[]
  methods := #[]
  instanceTypes := #[]
  staticTypes := #[]
  resolved := Array.replicate 8 none
  statics := none }

def pool5 : Array CpInfo := pool [(1, u "java/io/Serializable"), (0, .class_ 1), (0, u "java/lang/Object"), (0, .class_ 3)] 3

/-- java/io/Serializable -/
def k5 : Class := { plain "java/io/Serializable" (some 0) with
  accessFlags := 1537
  interfaces := #[]
  cf := some (fileOf pool5 2 #[] #[] 1537 4 #[] #[])
  fields := #[]
  methods := #[]
  instanceTypes := #[]
  staticTypes := #[]
  resolved := Array.replicate 8 none
  statics := none }

/-- the primitive byte -/
def k6 : Class := { plain "byte" none with kind := .primitive 'B', accessFlags := 0x411 }
/-- [B -/
def k7 : Class := { plain "[B" (some 0) with kind := .array 6 .byte, interfaces := #[4, 5], accessFlags := 1041 }

/-- the primitive int -/
def k8 : Class := { plain "int" none with kind := .primitive 'I', accessFlags := 0x411 }
/-- [I -/
def k9 : Class := { plain "[I" (some 0) with kind := .array 8 .int, interfaces := #[4, 5], accessFlags := 1041 }

def heap : Heap := #[]
def classes : Array Class := #[k0, k1, k2, k3, k4, k5, k6, k7, k8, k9]
def interned : List (Array UInt16 × Addr) := []
def slotsUsed : Nat := 0
def theMethod : MethodId := ⟨1, 1⟩
def args0 : Array Value := #[.long 12345, .int 250]
def aboutOver (below : List Frame) : State where
  vm := { classes := classes, interned := interned.toArray }
  heap := heap
  slotsUsed := slotsUsed
  threads := #[{ frames := .invoking theMethod args0 :: below }]
def below0 : List Frame := [.native { method := ⟨0, 0⟩, args := #[] }]
def about1 : State := aboutOver below0
def p0 : Program := .bare "" "" ""
def e0 : Env := launch0.env 0 0 0
theorem w_frames : about1.frames = Frame.invoking theMethod args0 :: below0 := rfl
set_option maxRecDepth 65536 in
theorem w_args : argsFit about1.vm theMethod args0 = true := by decide +kernel
set_option maxRecDepth 65536 in
theorem w_heap : heapFits about1 = true := by decide +kernel
set_option maxRecDepth 65536 in
theorem w_runnable : about1.curStatus? = some .runnable := by decide +kernel
set_option maxRecDepth 65536 in
theorem w_alone : about1.alone = true := by decide +kernel
set_option maxRecDepth 65536 in
theorem w_named : about1.methodNamed? x = some theMethod := by decide +kernel
set_option maxRecDepth 65536 in
theorem w_hears : about1.hears theMethod below0 = true := by decide +kernel
set_option maxRecDepth 65536 in
theorem w_ripe : about1.ripe theMethod args0 below0 = true := by decide +kernel
theorem w_running : about1.status = .running := rfl
set_option maxRecDepth 65536 in
theorem w_room : about1.hasRoom e0.platform room_1 = true :=
  launch0.hasRoom_least _ room_1 (by decide +kernel) (by decide +kernel) (by decide +kernel) (by decide +kernel) (by decide +kernel) (by decide +kernel)
theorem allAtoms_all (ts : List Jvm.Cond) (a : Array Jvm.Value) (st : Jvm.State) : (allAtoms ts).before a st = ts.all (fun c => c.before a st) := by
  induction ts with
  | nil => rfl
  | cons c t ih =>
    show (Jvm.Cond.and c (allAtoms t)).before a st = _
    rw [Jvm.Cond.before_and, ih, List.all_cons]
def words1 : List Jvm.Cond := Jvm.Cond.code x code maxLocals ret :: tables_1
/-- a 'code' word, met by the world's own term for the bytes: nothing is compared byte by byte -/
theorem code_word {y : MethodName} {bytes : ByteArray} {mx : Nat} {rt : Option FieldType} {a : Array Value} {s : State} {m : MethodId} {meth : Method} {c : Code} (h1 : s.methodNamed? y = some m) (h2 : s.vm.method? m = some meth) (h3 : meth.code = some c) (h4 : c.code = bytes)
    (h5 : (c.maxLocals == mx && c.exceptionTable.isEmpty && decide (c.maxStack ≤ mostOperands) && decide (meth.sig.returnType = rt) && !meth.locks && decide (parseMethodDescriptor y.desc = some meth.sig)) = true) : (Jvm.Cond.code y bytes mx rt).before a s = true := by
  simp only [Bool.and_eq_true, beq_iff_eq, Bool.not_eq_true', decide_eq_true_eq] at h5
  obtain ⟨⟨⟨⟨⟨g1, g2⟩, g3⟩, g4⟩, g5⟩, g6⟩ := h5
  simp [Cond.before, Cond.holds, Cond.value, h1, h2, h3, h4, g1, g2, g3, g4, g5, g6]
def isCode : Jvm.Cond → Bool
  | .code _ _ _ _ => true
  | _ => false
theorem all_split {L : List Jvm.Cond} {P : Jvm.Cond → Bool} (h1 : L.all (fun c => isCode c || P c) = true) (h2 : ∀ c ∈ L.filter isCode, P c = true) : L.all P = true := by
  refine List.all_eq_true.mpr fun c hc => ?_
  have h := List.all_eq_true.mp h1 c hc
  rcases Bool.eq_false_or_eq_true (isCode c) with hi | hi
  · exact h2 c (List.mem_filter.mpr ⟨hc, hi⟩)
  · simpa [hi] using h
set_option maxRecDepth 65536 in
theorem w_c0 : (Jvm.Cond.code x code maxLocals ret).before args0 about1 = true := code_word (m := ⟨1, 1⟩) (meth := k1m1) (c := k1c1) (by decide +kernel) rfl rfl rfl (by decide +kernel)
set_option maxRecDepth 65536 in
theorem w_c1 : (Jvm.Cond.code ({ cls := "com/example/tillstone/tillstone/Money", name := "fee", desc := "(JI)J" } : Jvm.MethodName) prog_8_method_2_code (3 : Nat) (Option.some Jvm.ClassFile.FieldType.long)).before args0 about1 = true := code_word (m := ⟨2, 1⟩) (meth := k2m1) (c := k2c1) (by decide +kernel) rfl rfl rfl (by decide +kernel)
set_option maxRecDepth 65536 in
theorem w_c2 : (Jvm.Cond.code ({ cls := "java/lang/Math", name := "multiplyExact", desc := "(JJ)J" } : Jvm.MethodName) jdk_29_method_30_code (10 : Nat) (Option.some Jvm.ClassFile.FieldType.long)).before args0 about1 = true := code_word (m := ⟨3, 1⟩) (meth := k3m1) (c := k3c1) (by decide +kernel) rfl rfl rfl (by decide +kernel)
set_option maxRecDepth 65536 in
theorem w_c3 : (Jvm.Cond.code ({ cls := "java/lang/Math", name := "abs", desc := "(J)J" } : Jvm.MethodName) jdk_29_method_61_code (2 : Nat) (Option.some Jvm.ClassFile.FieldType.long)).before args0 about1 = true := code_word (m := ⟨3, 2⟩) (meth := k3m2) (c := k3c2) (by decide +kernel) rfl rfl rfl (by decide +kernel)
def codes1 : List Jvm.Cond := [Jvm.Cond.code x code maxLocals ret, Jvm.Cond.code ({ cls := "com/example/tillstone/tillstone/Money", name := "fee", desc := "(JI)J" } : Jvm.MethodName) prog_8_method_2_code (3 : Nat) (Option.some Jvm.ClassFile.FieldType.long), Jvm.Cond.code ({ cls := "java/lang/Math", name := "multiplyExact", desc := "(JJ)J" } : Jvm.MethodName) jdk_29_method_30_code (10 : Nat) (Option.some Jvm.ClassFile.FieldType.long), Jvm.Cond.code ({ cls := "java/lang/Math", name := "abs", desc := "(J)J" } : Jvm.MethodName) jdk_29_method_61_code (2 : Nat) (Option.some Jvm.ClassFile.FieldType.long)]
set_option maxRecDepth 65536 in
theorem codes_eq : words1.filter isCode = codes1 := rfl
theorem w_codes : ∀ c ∈ words1.filter isCode, c.before args0 about1 = true := by
  rw [codes_eq]
  intro c hc
  simp only [codes1, List.mem_cons, List.not_mem_nil, or_false] at hc
  rcases hc with rfl | rfl | rfl | rfl
  · exact w_c0
  · exact w_c1
  · exact w_c2
  · exact w_c3
set_option maxRecDepth 65536 in
theorem w_t1 : words1.all (fun c => isCode c || c.before args0 about1) = true := by decide +kernel
theorem w_tables : (allAtoms (Jvm.Cond.code x code maxLocals ret :: tables_1)).before args0 about1 = true := by
  rw [allAtoms_all]
  show words1.all (fun c => c.before args0 about1) = true
  refine all_split ?_ w_codes
  rw [w_t1]
set_option maxRecDepth 65536 in
theorem w_case : (Jvm.Cond.and given_1 narrow_1).before args0 about1 = true := by decide +kernel
theorem w_applies : (headSpec (Jvm.Cond.code x code maxLocals ret :: tables_1) room_1).applies x e0.platform about1 = true :=
  (Spec.applies_iff w_frames).mpr ⟨w_running, w_runnable, w_alone, w_named, w_hears, w_ripe, w_room, w_tables⟩
theorem atStart : AtStart classFile x code maxLocals ret World_1 tables_1 room_1 Calls_1 rest_1 Pre_1 launch0 p0 e0 about1 theMethod args0 below0 :=
  ⟨lists_1, trivial, launch0.admits_env _ _ _, launch0.least_env, fairChoices_fair.cas, fairChoices_fair.clock, w_frames, w_args, w_heap, w_applies, trivial, trivial, w_case⟩
end start1
theorem witness_1 : WitnessClaimed_1 := ⟨start1.p0, start1.e0, start1.about1, start1.theMethod, start1.args0, start1.below0, start1.atStart⟩
end Jvm.Pilot.@@N@@
