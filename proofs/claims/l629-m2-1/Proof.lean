import JvmDerived
import JvmDerived.Pilot.@@N@@Statement
import JvmDerived.Pilot.@@N@@Code
set_option linter.unusedVariables false
set_option linter.unusedSimpArgs false
namespace Jvm.RoadKit
open Sem ClassFile Op Lib Jvm.Stand Jvm.Free Jvm.LawKit
section New
variable {p : Program} {l : Launch} {e : Env} {R : Room} {s : State} {m : MethodId} {args : Array Value} {below : List Frame} {meth : Method} {c : Code} {T : State} {locs : List Loc} {cells slots : Nat}
theorem retI (X : Stand p l e R s m args below meth c T locs cells slots) (hx : p.tables.exec = Jvm.exec) {pc : Nat} {Ls : Array Slot} {z : Int32} {rest : List Value} (hret : meth.sig.returnType = some .int) (hd : decode c.code pc = .ok (.ireturn, 1)) {fs : List Frame}
    (hl : ∀ (f : JFrame) (acts : List Action), f.method = m → f.locked = none → f.entered = [] → (doReturn e (T.setTop f) acts (some (.int z))).1 = T.setFrames fs) : Steps p.tables e below (T.setTop (mkF m pc Ls (.int z :: rest))) (T.setFrames fs) := by
  have hm' : T.vm.method? m = some meth := X.method'
  have hn : narrow .int (.int z) = .int z := rfl
  show Steps p.tables e below (T.setTop { method := m, pc := pc, locals := Ls, stack := _ :: rest, locked := none }) _
  jvm_step X.here [X.here.top, hx, hd, hm', hret, hn]
  first | (intro acts; rw [hl _ acts rfl rfl rfl]) | rw [hl _ _ rfl rfl rfl]
  exact Steps.refl _
end New
end Jvm.RoadKit
namespace Jvm.Pilot.@@N@@
open Jvm Jvm.ClassFile Sem Op Lib Jvm.Free Jvm.Stand Jvm.LawKit Jvm.RoadKit Bundle Jvm.Pilot.@@N@@.Jvm.D
def own_chain (p1 : Int32) : Int32 :=
  let n1 : Int32 := if p1 < (65536 : Int32) then (31 : Int32) else ((31 : Int32) + (-16 : Int32))
  let i1 : Int32 := if p1 < (65536 : Int32) then p1 else ((p1.toUInt32 >>> ((16 : Int32) &&& 31).toUInt32).toInt32)
  let n2 : Int32 := if i1 < (256 : Int32) then n1 else (n1 + (-8 : Int32))
  let i2 : Int32 := if i1 < (256 : Int32) then i1 else ((i1.toUInt32 >>> ((8 : Int32) &&& 31).toUInt32).toInt32)
  let n3 : Int32 := if i2 < (16 : Int32) then n2 else (n2 + (-4 : Int32))
  let i3 : Int32 := if i2 < (16 : Int32) then i2 else ((i2.toUInt32 >>> ((4 : Int32) &&& 31).toUInt32).toInt32)
  let n4 : Int32 := if i3 < (4 : Int32) then n3 else (n3 + (-2 : Int32))
  let i4 : Int32 := if i3 < (4 : Int32) then i3 else ((i3.toUInt32 >>> ((2 : Int32) &&& 31).toUInt32).toInt32)
  n4 - ((i4.toUInt32 >>> ((1 : Int32) &&& 31).toUInt32).toInt32)
def own_nlz (p1 : Int32) : Int32 := if (0 : Int32) < p1 then own_chain p1 else if p1 = (0 : Int32) then (32 : Int32) else (0 : Int32)
def own_hi (q1 : Int64) : Int32 := (((q1.toUInt64 >>> ((32 : Int32) &&& 0x3f).toInt64.toUInt64).toInt64).toInt32)
def own_nlz64 (q1 : Int64) : Int32 := if own_hi q1 = (0 : Int32) then (32 : Int32) + own_nlz (q1.toInt32) else own_nlz (own_hi q1)
theorem d3_0 : decode jdk_33_method_47_code 0 = .ok (.iload_n 0, 1) := by decide +kernel
theorem d3_1 : decode jdk_33_method_47_code 1 = .ok (.ifCond .gt 14, 3) := by decide +kernel
theorem d3_4 : decode jdk_33_method_47_code 4 = .ok (.iload_n 0, 1) := by decide +kernel
theorem d3_5 : decode jdk_33_method_47_code 5 = .ok (.ifCond .ne 8, 3) := by decide +kernel
theorem d3_8 : decode jdk_33_method_47_code 8 = .ok (.bipush 32, 2) := by decide +kernel
theorem d3_10 : decode jdk_33_method_47_code 10 = .ok (.goto 4, 3) := by decide +kernel
theorem d3_13 : decode jdk_33_method_47_code 13 = .ok (.iconst 0, 1) := by decide +kernel
theorem d3_14 : decode jdk_33_method_47_code 14 = .ok (.ireturn, 1) := by decide +kernel
theorem d3_15 : decode jdk_33_method_47_code 15 = .ok (.bipush 31, 2) := by decide +kernel
theorem d3_17 : decode jdk_33_method_47_code 17 = .ok (.istore_n 1, 1) := by decide +kernel
theorem d3_18 : decode jdk_33_method_47_code 18 = .ok (.iload_n 0, 1) := by decide +kernel
theorem d3_19 : decode jdk_33_method_47_code 19 = .ok (.ldc_w 264, 3) := by decide +kernel
theorem d3_22 : decode jdk_33_method_47_code 22 = .ok (.if_icmp .lt 11, 3) := by decide +kernel
theorem d3_25 : decode jdk_33_method_47_code 25 = .ok (.iinc 1 (-16), 3) := by decide +kernel
theorem d3_28 : decode jdk_33_method_47_code 28 = .ok (.iload_n 0, 1) := by decide +kernel
theorem d3_29 : decode jdk_33_method_47_code 29 = .ok (.bipush 16, 2) := by decide +kernel
theorem d3_31 : decode jdk_33_method_47_code 31 = .ok (.iushr, 1) := by decide +kernel
theorem d3_32 : decode jdk_33_method_47_code 32 = .ok (.istore_n 0, 1) := by decide +kernel
theorem d3_33 : decode jdk_33_method_47_code 33 = .ok (.iload_n 0, 1) := by decide +kernel
theorem d3_34 : decode jdk_33_method_47_code 34 = .ok (.sipush 256, 3) := by decide +kernel
theorem d3_37 : decode jdk_33_method_47_code 37 = .ok (.if_icmp .lt 11, 3) := by decide +kernel
theorem d3_40 : decode jdk_33_method_47_code 40 = .ok (.iinc 1 (-8), 3) := by decide +kernel
theorem d3_43 : decode jdk_33_method_47_code 43 = .ok (.iload_n 0, 1) := by decide +kernel
theorem d3_44 : decode jdk_33_method_47_code 44 = .ok (.bipush 8, 2) := by decide +kernel
theorem d3_46 : decode jdk_33_method_47_code 46 = .ok (.iushr, 1) := by decide +kernel
theorem d3_47 : decode jdk_33_method_47_code 47 = .ok (.istore_n 0, 1) := by decide +kernel
theorem d3_48 : decode jdk_33_method_47_code 48 = .ok (.iload_n 0, 1) := by decide +kernel
theorem d3_49 : decode jdk_33_method_47_code 49 = .ok (.bipush 16, 2) := by decide +kernel
theorem d3_51 : decode jdk_33_method_47_code 51 = .ok (.if_icmp .lt 10, 3) := by decide +kernel
theorem d3_54 : decode jdk_33_method_47_code 54 = .ok (.iinc 1 (-4), 3) := by decide +kernel
theorem d3_57 : decode jdk_33_method_47_code 57 = .ok (.iload_n 0, 1) := by decide +kernel
theorem d3_58 : decode jdk_33_method_47_code 58 = .ok (.iconst 4, 1) := by decide +kernel
theorem d3_59 : decode jdk_33_method_47_code 59 = .ok (.iushr, 1) := by decide +kernel
theorem d3_60 : decode jdk_33_method_47_code 60 = .ok (.istore_n 0, 1) := by decide +kernel
theorem d3_61 : decode jdk_33_method_47_code 61 = .ok (.iload_n 0, 1) := by decide +kernel
theorem d3_62 : decode jdk_33_method_47_code 62 = .ok (.iconst 4, 1) := by decide +kernel
theorem d3_63 : decode jdk_33_method_47_code 63 = .ok (.if_icmp .lt 10, 3) := by decide +kernel
theorem d3_66 : decode jdk_33_method_47_code 66 = .ok (.iinc 1 (-2), 3) := by decide +kernel
theorem d3_69 : decode jdk_33_method_47_code 69 = .ok (.iload_n 0, 1) := by decide +kernel
theorem d3_70 : decode jdk_33_method_47_code 70 = .ok (.iconst 2, 1) := by decide +kernel
theorem d3_71 : decode jdk_33_method_47_code 71 = .ok (.iushr, 1) := by decide +kernel
theorem d3_72 : decode jdk_33_method_47_code 72 = .ok (.istore_n 0, 1) := by decide +kernel
theorem d3_73 : decode jdk_33_method_47_code 73 = .ok (.iload_n 1, 1) := by decide +kernel
theorem d3_74 : decode jdk_33_method_47_code 74 = .ok (.iload_n 0, 1) := by decide +kernel
theorem d3_75 : decode jdk_33_method_47_code 75 = .ok (.iconst 1, 1) := by decide +kernel
theorem d3_76 : decode jdk_33_method_47_code 76 = .ok (.iushr, 1) := by decide +kernel
theorem d3_77 : decode jdk_33_method_47_code 77 = .ok (.isub, 1) := by decide +kernel
theorem d3_78 : decode jdk_33_method_47_code 78 = .ok (.ireturn, 1) := by decide +kernel
theorem pn_3 : plainName "java/lang/Integer" = true := by first | (simp [plainName, overriddenIn]; done) | decide +kernel
theorem ef_nlzI (m : MethodId) (x0 : Int32) : entryFrame m #[(.int x0)] 2 = mkF m 0 #[.val (.int x0), .unset] [] := by first | (simp [entryFrame, mkF, argsToLocals, Value.category]; done) | rfl
def QnlzI (Z : State) (p1 : Int32) (h0 : Heap) (n0 : Nat) (v : Option Value) (h : Heap) (L : List Loc) : Prop := v = some (.int (own_nlz p1)) ∧ Fr n0 L ∧ h = h0
set_option maxRecDepth 65536 in
set_option maxHeartbeats 40000000 in
theorem rm_nlzI (l : Launch) (Z : State) (a0 : Array Value) (hw : ∀ d ∈ tables_1, d.before a0 Z = true) (ws : List Jvm.Cond) (p1 : Int32) (h0 : Heap) (n0 : Nat) (Z0 : n0 ≤ h0.size) :
    MetFree l (⟨"java/lang/Integer", "numberOfLeadingZeros", "(I)I"⟩ : MethodName) (head1 (Jvm.Cond.code (⟨"java/lang/Integer", "numberOfLeadingZeros", "(I)I"⟩ : MethodName) jdk_33_method_47_code 2 (some .int) :: ws) ({ frames := 0, cells := 0, slots := 0, locals := 0 } : Room)) (fun a U => a = #[(.int p1)] ∧ Z.Warmed39 U.vm ∧ U.heap = h0) (fun _ _ _ _ _ => True) (fun _ U o U' => ∃ v L, o = .returned v ∧ QnlzI Z p1 h0 n0 v U'.heap L ∧ FrameEnd U o U' L ({ frames := 0, cells := 0, slots := 0, locals := 0 } : Room).cells ({ frames := 0, cells := 0, slots := 0, locals := 0 } : Room).slots) := by
  refine MetFree.of_bodySF (plainFor_of_name pn_3) hisR ?_
  intro p e s m args below meth c s₁ Bd hml0 hP hK
  obtain ⟨rfl, hZ, hh⟩ := hP
  have hx := Bd.exec
  have hby := Bd.bytes
  have hml : c.maxLocals = 2 := hml0
  have hown : s.vm.findClass "java/lang/Integer" = some m.cls := findClass_of_methodNamed Bd.named
  have hnm := (name_of_methodNamed Bd.named Bd.method).1
  have X0 : Stand p l e ({ frames := 0, cells := 0, slots := 0, locals := 0 } : Room) s m #[(.int p1)] below meth c s₁ [] 0 0 := Stand.of_body Bd
  have e0 : s₁.heap = h0 := by rw [← hh, Bd.state]; rfl
  have N0 := Fr.nil n0
  have k0 : ∀ t, Steps p.tables e below (s₁.setTop (mkF m 0 #[.val (.int p1), .unset] [])) t → Steps p.tables e below (s₁.setTop (entryFrame m #[(.int p1)] 2)) t := fun t k => castTop (ef_nlzI m p1) k
  have k1 : ∀ t, Steps p.tables e below (s₁.setTop (mkF m 1 #[.val (.int p1), .unset] [(.int p1)])) t → Steps p.tables e below (s₁.setTop (entryFrame m #[(.int p1)] 2)) t := fun t k => k0 t (by
    show Steps p.tables e below (s₁.setTop (mkF m 0 #[.val (.int p1), .unset] [])) _
    refine XS.iloadN X0.here hx rfl (hb hby d3_0) rfl ?_
    exact k)
  by_cases cd1 : (0 : Int32) < p1
  ·
    have k2 : ∀ t, Steps p.tables e below (s₁.setTop (mkF m 18 #[.val (.int p1), .val (.int (31 : Int32))] [])) t → Steps p.tables e below (s₁.setTop (entryFrame m #[(.int p1)] 2)) t := fun t k => k1 t (by
      show Steps p.tables e below (s₁.setTop (mkF m 1 #[.val (.int p1), .unset] [(.int p1)])) _
      refine XS.ifYes X0.here hx rfl (pc0 := 1) (pc' := 15) rfl (hb hby d3_1) rfl ((if0 _ _).trans (tlt cd1).2.2.1) (by decide) (by decide) ?_
      show Steps p.tables e below (s₁.setTop (mkF m 15 #[.val (.int p1), .unset] [])) _
      refine XS.bipush X0.here hx rfl (hb hby d3_15) ?_
      show Steps p.tables e below (s₁.setTop (mkF m 17 #[.val (.int p1), .unset] [(.int (31 : Int32))])) _
      refine XS.istoreN X0.here hx rfl (hb hby d3_17) rfl (l' := #[.val (.int p1), .val (.int (31 : Int32))]) rfl ?_
      exact k)
    obtain ⟨i1, hd_i1⟩ : ∃ z : Int32, z = (if p1 < (65536 : Int32) then p1 else ((p1.toUInt32 >>> ((16 : Int32) &&& 31).toUInt32).toInt32)) := ⟨_, rfl⟩
    obtain ⟨n1, hd_n1⟩ : ∃ z : Int32, z = (if p1 < (65536 : Int32) then (31 : Int32) else ((31 : Int32) + (-16 : Int32))) := ⟨_, rfl⟩
    have k3 : ∀ t, Steps p.tables e below (s₁.setTop (mkF m 33 #[.val (.int i1), .val (.int n1)] [])) t → Steps p.tables e below (s₁.setTop (entryFrame m #[(.int p1)] 2)) t := fun t k => k2 t (by
      show Steps p.tables e below (s₁.setTop (mkF m 18 #[.val (.int p1), .val (.int (31 : Int32))] [])) _
      refine XS.iloadN X0.here hx rfl (hb hby d3_18) rfl ?_
      show Steps p.tables e below (s₁.setTop (mkF m 19 #[.val (.int p1), .val (.int (31 : Int32))] [(.int p1)])) _
      refine X0.ldcwInt hx hown (mvT hZ (hw _ (List.mem_of_getElem? (i := 13) rfl))) (g := (mkF m 19 #[.val (.int p1), .val (.int (31 : Int32))] [(.int p1)])) rfl (hb hby d3_19) _ ?_
      by_cases c22 : p1 < (65536 : Int32)
      ·
        show Steps p.tables e below (s₁.setTop (mkF m 22 #[.val (.int p1), .val (.int (31 : Int32))] [(.int (65536 : Int32)), (.int p1)])) _
        refine XS.icmpYes X0.here hx rfl (pc0 := 22) (pc' := 33) rfl (hb hby d3_22) rfl (tlt c22).1 (by decide) (by decide) ?_
        simp only [if_pos c22] at hd_i1
        rw [hd_i1] at k
        simp only [if_pos c22] at hd_n1
        rw [hd_n1] at k
        exact k
      ·
        show Steps p.tables e below (s₁.setTop (mkF m 22 #[.val (.int p1), .val (.int (31 : Int32))] [(.int (65536 : Int32)), (.int p1)])) _
        refine XS.icmpNo X0.here hx rfl (hb hby d3_22) rfl (flt c22).1 ?_
        show Steps p.tables e below (s₁.setTop (mkF m 25 #[.val (.int p1), .val (.int (31 : Int32))] [])) _
        refine XS.iinc X0.here hx rfl (hb hby d3_25) rfl (l' := #[.val (.int p1), .val (.int ((31 : Int32) + (-16 : Int32)))]) rfl ?_
        show Steps p.tables e below (s₁.setTop (mkF m 28 #[.val (.int p1), .val (.int ((31 : Int32) + (-16 : Int32)))] [])) _
        refine XS.iloadN X0.here hx rfl (hb hby d3_28) rfl ?_
        show Steps p.tables e below (s₁.setTop (mkF m 29 #[.val (.int p1), .val (.int ((31 : Int32) + (-16 : Int32)))] [(.int p1)])) _
        refine XS.bipush X0.here hx rfl (hb hby d3_29) ?_
        show Steps p.tables e below (s₁.setTop (mkF m 31 #[.val (.int p1), .val (.int ((31 : Int32) + (-16 : Int32)))] [(.int (16 : Int32)), (.int p1)])) _
        refine XS.iushr X0.here hx rfl (hb hby d3_31) rfl ?_
        show Steps p.tables e below (s₁.setTop (mkF m 32 #[.val (.int p1), .val (.int ((31 : Int32) + (-16 : Int32)))] [(.int ((p1.toUInt32 >>> ((16 : Int32) &&& 31).toUInt32).toInt32))])) _
        refine XS.istoreN X0.here hx rfl (hb hby d3_32) rfl (l' := #[.val (.int ((p1.toUInt32 >>> ((16 : Int32) &&& 31).toUInt32).toInt32)), .val (.int ((31 : Int32) + (-16 : Int32)))]) rfl ?_
        simp only [if_neg c22] at hd_i1
        rw [hd_i1] at k
        simp only [if_neg c22] at hd_n1
        rw [hd_n1] at k
        exact k)
    obtain ⟨i2, hd_i2⟩ : ∃ z : Int32, z = (if i1 < (256 : Int32) then i1 else ((i1.toUInt32 >>> ((8 : Int32) &&& 31).toUInt32).toInt32)) := ⟨_, rfl⟩
    obtain ⟨n2, hd_n2⟩ : ∃ z : Int32, z = (if i1 < (256 : Int32) then n1 else (n1 + (-8 : Int32))) := ⟨_, rfl⟩
    have k4 : ∀ t, Steps p.tables e below (s₁.setTop (mkF m 48 #[.val (.int i2), .val (.int n2)] [])) t → Steps p.tables e below (s₁.setTop (entryFrame m #[(.int p1)] 2)) t := fun t k => k3 t (by
      show Steps p.tables e below (s₁.setTop (mkF m 33 #[.val (.int i1), .val (.int n1)] [])) _
      refine XS.iloadN X0.here hx rfl (hb hby d3_33) rfl ?_
      show Steps p.tables e below (s₁.setTop (mkF m 34 #[.val (.int i1), .val (.int n1)] [(.int i1)])) _
      refine XS.sipush X0.here hx rfl (hb hby d3_34) ?_
      by_cases c37 : i1 < (256 : Int32)
      ·
        show Steps p.tables e below (s₁.setTop (mkF m 37 #[.val (.int i1), .val (.int n1)] [(.int (256 : Int32)), (.int i1)])) _
        refine XS.icmpYes X0.here hx rfl (pc0 := 37) (pc' := 48) rfl (hb hby d3_37) rfl (tlt c37).1 (by decide) (by decide) ?_
        simp only [if_pos c37] at hd_i2
        rw [hd_i2] at k
        simp only [if_pos c37] at hd_n2
        rw [hd_n2] at k
        exact k
      ·
        show Steps p.tables e below (s₁.setTop (mkF m 37 #[.val (.int i1), .val (.int n1)] [(.int (256 : Int32)), (.int i1)])) _
        refine XS.icmpNo X0.here hx rfl (hb hby d3_37) rfl (flt c37).1 ?_
        show Steps p.tables e below (s₁.setTop (mkF m 40 #[.val (.int i1), .val (.int n1)] [])) _
        refine XS.iinc X0.here hx rfl (hb hby d3_40) rfl (l' := #[.val (.int i1), .val (.int (n1 + (-8 : Int32)))]) rfl ?_
        show Steps p.tables e below (s₁.setTop (mkF m 43 #[.val (.int i1), .val (.int (n1 + (-8 : Int32)))] [])) _
        refine XS.iloadN X0.here hx rfl (hb hby d3_43) rfl ?_
        show Steps p.tables e below (s₁.setTop (mkF m 44 #[.val (.int i1), .val (.int (n1 + (-8 : Int32)))] [(.int i1)])) _
        refine XS.bipush X0.here hx rfl (hb hby d3_44) ?_
        show Steps p.tables e below (s₁.setTop (mkF m 46 #[.val (.int i1), .val (.int (n1 + (-8 : Int32)))] [(.int (8 : Int32)), (.int i1)])) _
        refine XS.iushr X0.here hx rfl (hb hby d3_46) rfl ?_
        show Steps p.tables e below (s₁.setTop (mkF m 47 #[.val (.int i1), .val (.int (n1 + (-8 : Int32)))] [(.int ((i1.toUInt32 >>> ((8 : Int32) &&& 31).toUInt32).toInt32))])) _
        refine XS.istoreN X0.here hx rfl (hb hby d3_47) rfl (l' := #[.val (.int ((i1.toUInt32 >>> ((8 : Int32) &&& 31).toUInt32).toInt32)), .val (.int (n1 + (-8 : Int32)))]) rfl ?_
        simp only [if_neg c37] at hd_i2
        rw [hd_i2] at k
        simp only [if_neg c37] at hd_n2
        rw [hd_n2] at k
        exact k)
    obtain ⟨i3, hd_i3⟩ : ∃ z : Int32, z = (if i2 < (16 : Int32) then i2 else ((i2.toUInt32 >>> ((4 : Int32) &&& 31).toUInt32).toInt32)) := ⟨_, rfl⟩
    obtain ⟨n3, hd_n3⟩ : ∃ z : Int32, z = (if i2 < (16 : Int32) then n2 else (n2 + (-4 : Int32))) := ⟨_, rfl⟩
    have k5 : ∀ t, Steps p.tables e below (s₁.setTop (mkF m 61 #[.val (.int i3), .val (.int n3)] [])) t → Steps p.tables e below (s₁.setTop (entryFrame m #[(.int p1)] 2)) t := fun t k => k4 t (by
      show Steps p.tables e below (s₁.setTop (mkF m 48 #[.val (.int i2), .val (.int n2)] [])) _
      refine XS.iloadN X0.here hx rfl (hb hby d3_48) rfl ?_
      show Steps p.tables e below (s₁.setTop (mkF m 49 #[.val (.int i2), .val (.int n2)] [(.int i2)])) _
      refine XS.bipush X0.here hx rfl (hb hby d3_49) ?_
      by_cases c51 : i2 < (16 : Int32)
      ·
        show Steps p.tables e below (s₁.setTop (mkF m 51 #[.val (.int i2), .val (.int n2)] [(.int (16 : Int32)), (.int i2)])) _
        refine XS.icmpYes X0.here hx rfl (pc0 := 51) (pc' := 61) rfl (hb hby d3_51) rfl (tlt c51).1 (by decide) (by decide) ?_
        simp only [if_pos c51] at hd_i3
        rw [hd_i3] at k
        simp only [if_pos c51] at hd_n3
        rw [hd_n3] at k
        exact k
      ·
        show Steps p.tables e below (s₁.setTop (mkF m 51 #[.val (.int i2), .val (.int n2)] [(.int (16 : Int32)), (.int i2)])) _
        refine XS.icmpNo X0.here hx rfl (hb hby d3_51) rfl (flt c51).1 ?_
        show Steps p.tables e below (s₁.setTop (mkF m 54 #[.val (.int i2), .val (.int n2)] [])) _
        refine XS.iinc X0.here hx rfl (hb hby d3_54) rfl (l' := #[.val (.int i2), .val (.int (n2 + (-4 : Int32)))]) rfl ?_
        show Steps p.tables e below (s₁.setTop (mkF m 57 #[.val (.int i2), .val (.int (n2 + (-4 : Int32)))] [])) _
        refine XS.iloadN X0.here hx rfl (hb hby d3_57) rfl ?_
        show Steps p.tables e below (s₁.setTop (mkF m 58 #[.val (.int i2), .val (.int (n2 + (-4 : Int32)))] [(.int i2)])) _
        refine XS.iconst X0.here hx rfl (hb hby d3_58) ?_
        show Steps p.tables e below (s₁.setTop (mkF m 59 #[.val (.int i2), .val (.int (n2 + (-4 : Int32)))] [(.int (4 : Int32)), (.int i2)])) _
        refine XS.iushr X0.here hx rfl (hb hby d3_59) rfl ?_
        show Steps p.tables e below (s₁.setTop (mkF m 60 #[.val (.int i2), .val (.int (n2 + (-4 : Int32)))] [(.int ((i2.toUInt32 >>> ((4 : Int32) &&& 31).toUInt32).toInt32))])) _
        refine XS.istoreN X0.here hx rfl (hb hby d3_60) rfl (l' := #[.val (.int ((i2.toUInt32 >>> ((4 : Int32) &&& 31).toUInt32).toInt32)), .val (.int (n2 + (-4 : Int32)))]) rfl ?_
        simp only [if_neg c51] at hd_i3
        rw [hd_i3] at k
        simp only [if_neg c51] at hd_n3
        rw [hd_n3] at k
        exact k)
    obtain ⟨i4, hd_i4⟩ : ∃ z : Int32, z = (if i3 < (4 : Int32) then i3 else ((i3.toUInt32 >>> ((2 : Int32) &&& 31).toUInt32).toInt32)) := ⟨_, rfl⟩
    obtain ⟨n4, hd_n4⟩ : ∃ z : Int32, z = (if i3 < (4 : Int32) then n3 else (n3 + (-2 : Int32))) := ⟨_, rfl⟩
    have k6 : ∀ t, Steps p.tables e below (s₁.setTop (mkF m 73 #[.val (.int i4), .val (.int n4)] [])) t → Steps p.tables e below (s₁.setTop (entryFrame m #[(.int p1)] 2)) t := fun t k => k5 t (by
      show Steps p.tables e below (s₁.setTop (mkF m 61 #[.val (.int i3), .val (.int n3)] [])) _
      refine XS.iloadN X0.here hx rfl (hb hby d3_61) rfl ?_
      show Steps p.tables e below (s₁.setTop (mkF m 62 #[.val (.int i3), .val (.int n3)] [(.int i3)])) _
      refine XS.iconst X0.here hx rfl (hb hby d3_62) ?_
      by_cases c63 : i3 < (4 : Int32)
      ·
        show Steps p.tables e below (s₁.setTop (mkF m 63 #[.val (.int i3), .val (.int n3)] [(.int (4 : Int32)), (.int i3)])) _
        refine XS.icmpYes X0.here hx rfl (pc0 := 63) (pc' := 73) rfl (hb hby d3_63) rfl (tlt c63).1 (by decide) (by decide) ?_
        simp only [if_pos c63] at hd_i4
        rw [hd_i4] at k
        simp only [if_pos c63] at hd_n4
        rw [hd_n4] at k
        exact k
      ·
        show Steps p.tables e below (s₁.setTop (mkF m 63 #[.val (.int i3), .val (.int n3)] [(.int (4 : Int32)), (.int i3)])) _
        refine XS.icmpNo X0.here hx rfl (hb hby d3_63) rfl (flt c63).1 ?_
        show Steps p.tables e below (s₁.setTop (mkF m 66 #[.val (.int i3), .val (.int n3)] [])) _
        refine XS.iinc X0.here hx rfl (hb hby d3_66) rfl (l' := #[.val (.int i3), .val (.int (n3 + (-2 : Int32)))]) rfl ?_
        show Steps p.tables e below (s₁.setTop (mkF m 69 #[.val (.int i3), .val (.int (n3 + (-2 : Int32)))] [])) _
        refine XS.iloadN X0.here hx rfl (hb hby d3_69) rfl ?_
        show Steps p.tables e below (s₁.setTop (mkF m 70 #[.val (.int i3), .val (.int (n3 + (-2 : Int32)))] [(.int i3)])) _
        refine XS.iconst X0.here hx rfl (hb hby d3_70) ?_
        show Steps p.tables e below (s₁.setTop (mkF m 71 #[.val (.int i3), .val (.int (n3 + (-2 : Int32)))] [(.int (2 : Int32)), (.int i3)])) _
        refine XS.iushr X0.here hx rfl (hb hby d3_71) rfl ?_
        show Steps p.tables e below (s₁.setTop (mkF m 72 #[.val (.int i3), .val (.int (n3 + (-2 : Int32)))] [(.int ((i3.toUInt32 >>> ((2 : Int32) &&& 31).toUInt32).toInt32))])) _
        refine XS.istoreN X0.here hx rfl (hb hby d3_72) rfl (l' := #[.val (.int ((i3.toUInt32 >>> ((2 : Int32) &&& 31).toUInt32).toInt32)), .val (.int (n3 + (-2 : Int32)))]) rfl ?_
        simp only [if_neg c63] at hd_i4
        rw [hd_i4] at k
        simp only [if_neg c63] at hd_n4
        rw [hd_n4] at k
        exact k)
    have hv : own_nlz p1 = (n4 - ((i4.toUInt32 >>> ((1 : Int32) &&& 31).toUInt32).toInt32)) := by
      rw [show own_nlz p1 = own_chain p1 from if_pos cd1]
      subst hd_n4 hd_i4 hd_n3 hd_i3 hd_n2 hd_i2 hd_n1 hd_i1
      rfl
    have k8 : ∀ t, Steps p.tables e below (s₁.setTop (mkF m 78 #[.val (.int i4), .val (.int n4)] [(.int (n4 - ((i4.toUInt32 >>> ((1 : Int32) &&& 31).toUInt32).toInt32)))])) t → Steps p.tables e below (s₁.setTop (entryFrame m #[(.int p1)] 2)) t := fun t k => k6 t (by
      show Steps p.tables e below (s₁.setTop (mkF m 73 #[.val (.int i4), .val (.int n4)] [])) _
      refine XS.iloadN X0.here hx rfl (hb hby d3_73) rfl ?_
      show Steps p.tables e below (s₁.setTop (mkF m 74 #[.val (.int i4), .val (.int n4)] [(.int n4)])) _
      refine XS.iloadN X0.here hx rfl (hb hby d3_74) rfl ?_
      show Steps p.tables e below (s₁.setTop (mkF m 75 #[.val (.int i4), .val (.int n4)] [(.int i4), (.int n4)])) _
      refine XS.iconst X0.here hx rfl (hb hby d3_75) ?_
      show Steps p.tables e below (s₁.setTop (mkF m 76 #[.val (.int i4), .val (.int n4)] [(.int (1 : Int32)), (.int i4), (.int n4)])) _
      refine XS.iushr X0.here hx rfl (hb hby d3_76) rfl ?_
      show Steps p.tables e below (s₁.setTop (mkF m 77 #[.val (.int i4), .val (.int n4)] [(.int ((i4.toUInt32 >>> ((1 : Int32) &&& 31).toUInt32).toInt32)), (.int n4)])) _
      refine XS.isub X0.here hx rfl (hb hby d3_77) rfl ?_
      exact k)
    obtain ⟨fs, hr, hrun, hended, hW, hsame⟩ := X0.leave (v := some (.int (n4 - ((i4.toUInt32 >>> ((1 : Int32) &&& 31).toUInt32).toInt32)))) (fun h => by rw [Bd.returns] at h; cases h)
    refine ⟨_, _, k8 _ ?_, hrun, hended, _, _, rfl, ?_, ⟨_, rfl⟩, hW, hsame.mono (by decide) (by decide)⟩
    · show Steps p.tables e below (s₁.setTop (mkF m 78 #[.val (.int i4), .val (.int n4)] [(.int (n4 - ((i4.toUInt32 >>> ((1 : Int32) &&& 31).toUInt32).toInt32)))])) _
      exact retI X0 hx Bd.returns (hb hby d3_78) hr
    ·
      show QnlzI _ p1 h0 n0 _ s₁.heap _
      rw [e0]
      exact ⟨by rw [hv], N0, rfl⟩
  ·
    have k9 : ∀ t, Steps p.tables e below (s₁.setTop (mkF m 5 #[.val (.int p1), .unset] [(.int p1)])) t → Steps p.tables e below (s₁.setTop (entryFrame m #[(.int p1)] 2)) t := fun t k => k1 t (by
      show Steps p.tables e below (s₁.setTop (mkF m 1 #[.val (.int p1), .unset] [(.int p1)])) _
      refine XS.ifNo X0.here hx rfl (hb hby d3_1) rfl ((if0 _ _).trans (flt cd1).2.2.1) ?_
      show Steps p.tables e below (s₁.setTop (mkF m 4 #[.val (.int p1), .unset] [])) _
      refine XS.iloadN X0.here hx rfl (hb hby d3_4) rfl ?_
      exact k)
    by_cases cd5 : p1 = (0 : Int32)
    ·
      have hv : own_nlz p1 = (32 : Int32) := (if_neg cd1).trans (if_pos cd5)
      have k11 : ∀ t, Steps p.tables e below (s₁.setTop (mkF m 14 #[.val (.int p1), .unset] [(.int (32 : Int32))])) t → Steps p.tables e below (s₁.setTop (entryFrame m #[(.int p1)] 2)) t := fun t k => k9 t (by
        show Steps p.tables e below (s₁.setTop (mkF m 5 #[.val (.int p1), .unset] [(.int p1)])) _
        refine XS.ifNo X0.here hx rfl (hb hby d3_5) rfl ((if0 _ _).trans (teq cd5).2) ?_
        show Steps p.tables e below (s₁.setTop (mkF m 8 #[.val (.int p1), .unset] [])) _
        refine XS.bipush X0.here hx rfl (hb hby d3_8) ?_
        show Steps p.tables e below (s₁.setTop (mkF m 10 #[.val (.int p1), .unset] [(.int (32 : Int32))])) _
        refine XS.goto X0.here hx rfl (pc0 := 10) (pc' := 14) rfl (hb hby d3_10) (by decide) (by decide) ?_
        exact k)
      obtain ⟨fs, hr, hrun, hended, hW, hsame⟩ := X0.leave (v := some (.int (32 : Int32))) (fun h => by rw [Bd.returns] at h; cases h)
      refine ⟨_, _, k11 _ ?_, hrun, hended, _, _, rfl, ?_, ⟨_, rfl⟩, hW, hsame.mono (by decide) (by decide)⟩
      · show Steps p.tables e below (s₁.setTop (mkF m 14 #[.val (.int p1), .unset] [(.int (32 : Int32))])) _
        exact retI X0 hx Bd.returns (hb hby d3_14) hr
      ·
        show QnlzI _ p1 h0 n0 _ s₁.heap _
        rw [e0]
        exact ⟨by rw [hv], N0, rfl⟩
    ·
      have hv : own_nlz p1 = (0 : Int32) := (if_neg cd1).trans (if_neg cd5)
      have k13 : ∀ t, Steps p.tables e below (s₁.setTop (mkF m 14 #[.val (.int p1), .unset] [(.int (0 : Int32))])) t → Steps p.tables e below (s₁.setTop (entryFrame m #[(.int p1)] 2)) t := fun t k => k9 t (by
        show Steps p.tables e below (s₁.setTop (mkF m 5 #[.val (.int p1), .unset] [(.int p1)])) _
        refine XS.ifYes X0.here hx rfl (pc0 := 5) (pc' := 13) rfl (hb hby d3_5) rfl ((if0 _ _).trans (feq cd5).2) (by decide) (by decide) ?_
        show Steps p.tables e below (s₁.setTop (mkF m 13 #[.val (.int p1), .unset] [])) _
        refine XS.iconst X0.here hx rfl (hb hby d3_13) ?_
        exact k)
      obtain ⟨fs, hr, hrun, hended, hW, hsame⟩ := X0.leave (v := some (.int (0 : Int32))) (fun h => by rw [Bd.returns] at h; cases h)
      refine ⟨_, _, k13 _ ?_, hrun, hended, _, _, rfl, ?_, ⟨_, rfl⟩, hW, hsame.mono (by decide) (by decide)⟩
      · show Steps p.tables e below (s₁.setTop (mkF m 14 #[.val (.int p1), .unset] [(.int (0 : Int32))])) _
        exact retI X0 hx Bd.returns (hb hby d3_14) hr
      ·
        show QnlzI _ p1 h0 n0 _ s₁.heap _
        rw [e0]
        exact ⟨by rw [hv], N0, rfl⟩
theorem pd__I_I : parseMethodDescriptor "(I)I" = some ⟨[.int], some .int⟩ := by decide +kernel
theorem d2_0 : decode jdk_35_method_48_code 0 = .ok (.lload_n 0, 1) := by decide +kernel
theorem d2_1 : decode jdk_35_method_48_code 1 = .ok (.bipush 32, 2) := by decide +kernel
theorem d2_3 : decode jdk_35_method_48_code 3 = .ok (.lushr, 1) := by decide +kernel
theorem d2_4 : decode jdk_35_method_48_code 4 = .ok (.l2i, 1) := by decide +kernel
theorem d2_5 : decode jdk_35_method_48_code 5 = .ok (.istore_n 2, 1) := by decide +kernel
theorem d2_6 : decode jdk_35_method_48_code 6 = .ok (.iload_n 2, 1) := by decide +kernel
theorem d2_7 : decode jdk_35_method_48_code 7 = .ok (.ifCond .ne 14, 3) := by decide +kernel
theorem d2_10 : decode jdk_35_method_48_code 10 = .ok (.bipush 32, 2) := by decide +kernel
theorem d2_12 : decode jdk_35_method_48_code 12 = .ok (.lload_n 0, 1) := by decide +kernel
theorem d2_13 : decode jdk_35_method_48_code 13 = .ok (.l2i, 1) := by decide +kernel
theorem d2_14 : decode jdk_35_method_48_code 14 = .ok (.invokestatic 308, 3) := by decide +kernel
theorem d2_17 : decode jdk_35_method_48_code 17 = .ok (.iadd, 1) := by decide +kernel
theorem d2_18 : decode jdk_35_method_48_code 18 = .ok (.goto 7, 3) := by decide +kernel
theorem d2_21 : decode jdk_35_method_48_code 21 = .ok (.iload_n 2, 1) := by decide +kernel
theorem d2_22 : decode jdk_35_method_48_code 22 = .ok (.invokestatic 308, 3) := by decide +kernel
theorem d2_25 : decode jdk_35_method_48_code 25 = .ok (.ireturn, 1) := by decide +kernel
theorem pn_2 : plainName "java/lang/Long" = true := by first | (simp [plainName, overriddenIn]; done) | decide +kernel
theorem ef_nlzL (m : MethodId) (x0 : Int64) : entryFrame m #[(.long x0)] 3 = mkF m 0 #[.val (.long x0), .second, .unset] [] := by first | (simp [entryFrame, mkF, argsToLocals, Value.category]; done) | rfl
def QnlzL (Z : State) (q1 : Int64) (h0 : Heap) (n0 : Nat) (v : Option Value) (h : Heap) (L : List Loc) : Prop := v = some (.int (own_nlz64 q1)) ∧ Fr n0 L ∧ h = h0
set_option maxRecDepth 65536 in
set_option maxHeartbeats 40000000 in
theorem rm_nlzL (l : Launch) (Z : State) (a0 : Array Value) (hw : ∀ d ∈ tables_1, d.before a0 Z = true) (ws : List Jvm.Cond) (q1 : Int64) (h0 : Heap) (n0 : Nat) (Z0 : n0 ≤ h0.size) :
    MetFree l (⟨"java/lang/Long", "numberOfLeadingZeros", "(J)I"⟩ : MethodName) (head1 (Jvm.Cond.code (⟨"java/lang/Long", "numberOfLeadingZeros", "(J)I"⟩ : MethodName) jdk_35_method_48_code 3 (some .int) :: ws) ({ frames := 1, cells := 0, slots := 0, locals := 14 } : Room)) (fun a U => a = #[(.long q1)] ∧ Z.Warmed39 U.vm ∧ U.heap = h0) (fun _ _ _ _ _ => True) (fun _ U o U' => ∃ v L, o = .returned v ∧ QnlzL Z q1 h0 n0 v U'.heap L ∧ FrameEnd U o U' L ({ frames := 1, cells := 0, slots := 0, locals := 14 } : Room).cells ({ frames := 1, cells := 0, slots := 0, locals := 14 } : Room).slots) := by
  refine MetFree.of_bodySF (plainFor_of_name pn_2) hisR ?_
  intro p e s m args below meth c s₁ Bd hml0 hP hK
  obtain ⟨rfl, hZ, hh⟩ := hP
  have hx := Bd.exec
  have hby := Bd.bytes
  have hml : c.maxLocals = 3 := hml0
  have hown : s.vm.findClass "java/lang/Long" = some m.cls := findClass_of_methodNamed Bd.named
  have hnm := (name_of_methodNamed Bd.named Bd.method).1
  have X0 : Stand p l e ({ frames := 1, cells := 0, slots := 0, locals := 14 } : Room) s m #[(.long q1)] below meth c s₁ [] 0 0 := Stand.of_body Bd
  have e0 : s₁.heap = h0 := by rw [← hh, Bd.state]; rfl
  have N0 := Fr.nil n0
  have k0 : ∀ t, Steps p.tables e below (s₁.setTop (mkF m 0 #[.val (.long q1), .second, .unset] [])) t → Steps p.tables e below (s₁.setTop (entryFrame m #[(.long q1)] 3)) t := fun t k => castTop (ef_nlzL m q1) k
  have k1 : ∀ t, Steps p.tables e below (s₁.setTop (mkF m 6 #[.val (.long q1), .second, .val (.int (((q1.toUInt64 >>> ((32 : Int32) &&& 0x3f).toInt64.toUInt64).toInt64).toInt32))] [])) t → Steps p.tables e below (s₁.setTop (entryFrame m #[(.long q1)] 3)) t := fun t k => k0 t (by
    show Steps p.tables e below (s₁.setTop (mkF m 0 #[.val (.long q1), .second, .unset] [])) _
    refine XS.lloadN X0.here hx rfl (hb hby d2_0) rfl ?_
    show Steps p.tables e below (s₁.setTop (mkF m 1 #[.val (.long q1), .second, .unset] [(.long q1)])) _
    refine XS.bipush X0.here hx rfl (hb hby d2_1) ?_
    show Steps p.tables e below (s₁.setTop (mkF m 3 #[.val (.long q1), .second, .unset] [(.int (32 : Int32)), (.long q1)])) _
    refine XS.lushr X0.here hx rfl (hb hby d2_3) rfl ?_
    show Steps p.tables e below (s₁.setTop (mkF m 4 #[.val (.long q1), .second, .unset] [(.long ((q1.toUInt64 >>> ((32 : Int32) &&& 0x3f).toInt64.toUInt64).toInt64))])) _
    refine XS.l2i X0.here hx rfl (hb hby d2_4) rfl ?_
    show Steps p.tables e below (s₁.setTop (mkF m 5 #[.val (.long q1), .second, .unset] [(.int (((q1.toUInt64 >>> ((32 : Int32) &&& 0x3f).toInt64.toUInt64).toInt64).toInt32))])) _
    refine XS.istoreN X0.here hx rfl (hb hby d2_5) rfl (l' := #[.val (.long q1), .second, .val (.int (((q1.toUInt64 >>> ((32 : Int32) &&& 0x3f).toInt64.toUInt64).toInt64).toInt32))]) rfl ?_
    exact k)
  obtain ⟨hi, hd_hi⟩ : ∃ z : Int32, z = (((q1.toUInt64 >>> ((32 : Int32) &&& 0x3f).toInt64.toUInt64).toInt64).toInt32) := ⟨_, rfl⟩
  have k2 : ∀ t, Steps p.tables e below (s₁.setTop (mkF m 6 #[.val (.long q1), .second, .val (.int hi)] [])) t → Steps p.tables e below (s₁.setTop (entryFrame m #[(.long q1)] 3)) t := by rw [hd_hi]; exact k1
  have k3 : ∀ t, Steps p.tables e below (s₁.setTop (mkF m 7 #[.val (.long q1), .second, .val (.int hi)] [(.int hi)])) t → Steps p.tables e below (s₁.setTop (entryFrame m #[(.long q1)] 3)) t := fun t k => k2 t (by
    show Steps p.tables e below (s₁.setTop (mkF m 6 #[.val (.long q1), .second, .val (.int hi)] [])) _
    refine XS.iloadN X0.here hx rfl (hb hby d2_6) rfl ?_
    exact k)
  by_cases cd7 : hi = (0 : Int32)
  ·
    obtain ⟨_, _, ⟨T4, L4, kk4, n4⟩, -, X4, ⟨Lc4, hQ4, l4, y4, z4⟩, st4⟩ := Jvm.LawKit.callS X0 hx (y := (⟨"java/lang/Integer", "numberOfLeadingZeros", "(I)I"⟩ : MethodName)) hown (mvT hZ (hw _ (List.mem_of_getElem? (i := 9) rfl))) (mvT hZ (hw _ (List.mem_of_getElem? (i := 10) rfl))) (mvT hZ (hw _ (List.mem_of_getElem? (i := 11) rfl))) (mvT hZ (hw _ (List.mem_of_getElem? (i := 12) rfl))) (by decide) (backOf (W := 1) (rm_nlzI l Z a0 hw [] (q1.toInt32) h0 n0 Z0) hZ (hw _ (List.mem_of_getElem? (i := 12) rfl)) (hw _ (List.mem_of_getElem? (i := 11) rfl)) (by decide) (by decide)) (g := (mkF m 14 #[.val (.long q1), .second, .val (.int hi)] [(.int (q1.toInt32)), (.int (32 : Int32))])) rfl (by rw [hml]; rfl) (argsL := [(.int (q1.toInt32))]) (rest := [(.int (32 : Int32))]) (lenOf pd__I_I rfl) rfl (by show 2 * 0 + _ ≤ _; exact Nat.le_of_eq rfl) (hb hby d2_14) (fun _ _ => ⟨rfl, e0, (by decide : 0 + 0 ≤ _), (by decide : 0 + 0 ≤ _)⟩)
    dsimp only [Pt.U, Pt.locs, Pt.cells, Pt.slots] at X4 l4 y4 z4 st4 hQ4
    subst l4 y4 z4
    obtain ⟨rfl, N4q, qa⟩ := hQ4
    have N4 := Fr.app N0 N4q
    have hv : own_nlz64 q1 = ((32 : Int32) + (own_nlz (q1.toInt32))) := by
      have e : own_hi q1 = hi := hd_hi.symm
      show (if own_hi q1 = (0 : Int32) then (32 : Int32) + own_nlz (q1.toInt32) else own_nlz (own_hi q1)) = _
      rw [e]; exact if_pos cd7
    have k6 : ∀ t, Steps p.tables e below (T4.setTop (mkF m 25 #[.val (.long q1), .second, .val (.int hi)] [(.int ((32 : Int32) + (own_nlz (q1.toInt32))))])) t → Steps p.tables e below (s₁.setTop (entryFrame m #[(.long q1)] 3)) t := fun t k => k3 t (by
      show Steps p.tables e below (s₁.setTop (mkF m 7 #[.val (.long q1), .second, .val (.int hi)] [(.int hi)])) _
      refine XS.ifNo X0.here hx rfl (hb hby d2_7) rfl ((if0 _ _).trans (teq cd7).2) ?_
      show Steps p.tables e below (s₁.setTop (mkF m 10 #[.val (.long q1), .second, .val (.int hi)] [])) _
      refine XS.bipush X0.here hx rfl (hb hby d2_10) ?_
      show Steps p.tables e below (s₁.setTop (mkF m 12 #[.val (.long q1), .second, .val (.int hi)] [(.int (32 : Int32))])) _
      refine XS.lloadN X0.here hx rfl (hb hby d2_12) rfl ?_
      show Steps p.tables e below (s₁.setTop (mkF m 13 #[.val (.long q1), .second, .val (.int hi)] [(.long q1), (.int (32 : Int32))])) _
      refine XS.l2i X0.here hx rfl (hb hby d2_13) rfl ?_
      show Steps p.tables e below (s₁.setTop (mkF m 14 #[.val (.long q1), .second, .val (.int hi)] [(.int (q1.toInt32)), (.int (32 : Int32))])) _
      refine st4 _ ?_
      show Steps p.tables e below (T4.setTop (mkF m 17 #[.val (.long q1), .second, .val (.int hi)] [(.int (own_nlz (q1.toInt32))), (.int (32 : Int32))])) _
      refine XS.iadd X4.here hx rfl (hb hby d2_17) rfl ?_
      show Steps p.tables e below (T4.setTop (mkF m 18 #[.val (.long q1), .second, .val (.int hi)] [(.int ((32 : Int32) + (own_nlz (q1.toInt32))))])) _
      refine XS.goto X4.here hx rfl (pc0 := 18) (pc' := 25) rfl (hb hby d2_18) (by decide) (by decide) ?_
      exact k)
    obtain ⟨fs, hr, hrun, hended, hW, hsame⟩ := X4.leave (v := some (.int ((32 : Int32) + (own_nlz (q1.toInt32))))) (fun h => by rw [Bd.returns] at h; cases h)
    refine ⟨_, _, k6 _ ?_, hrun, hended, _, _, rfl, ?_, ⟨_, rfl⟩, hW, hsame.mono (by decide) (by decide)⟩
    · show Steps p.tables e below (T4.setTop (mkF m 25 #[.val (.long q1), .second, .val (.int hi)] [(.int ((32 : Int32) + (own_nlz (q1.toInt32))))])) _
      exact retI X4 hx Bd.returns (hb hby d2_25) hr
    ·
      show QnlzL _ q1 h0 n0 _ T4.heap _
      rw [qa]
      exact ⟨by rw [hv], N4, rfl⟩
  ·
    obtain ⟨_, _, ⟨T7, L7, kk7, n7⟩, -, X7, ⟨Lc7, hQ7, l7, y7, z7⟩, st7⟩ := Jvm.LawKit.callS X0 hx (y := (⟨"java/lang/Integer", "numberOfLeadingZeros", "(I)I"⟩ : MethodName)) hown (mvT hZ (hw _ (List.mem_of_getElem? (i := 9) rfl))) (mvT hZ (hw _ (List.mem_of_getElem? (i := 10) rfl))) (mvT hZ (hw _ (List.mem_of_getElem? (i := 11) rfl))) (mvT hZ (hw _ (List.mem_of_getElem? (i := 12) rfl))) (by decide) (backOf (W := 0) (rm_nlzI l Z a0 hw [] hi h0 n0 Z0) hZ (hw _ (List.mem_of_getElem? (i := 12) rfl)) (hw _ (List.mem_of_getElem? (i := 11) rfl)) (by decide) (by decide)) (g := (mkF m 22 #[.val (.long q1), .second, .val (.int hi)] [(.int hi)])) rfl (by rw [hml]; rfl) (argsL := [(.int hi)]) (rest := []) (lenOf pd__I_I rfl) rfl (by show 2 * 0 + _ ≤ _; exact Nat.le_of_eq rfl) (hb hby d2_22) (fun _ _ => ⟨rfl, e0, (by decide : 0 + 0 ≤ _), (by decide : 0 + 0 ≤ _)⟩)
    dsimp only [Pt.U, Pt.locs, Pt.cells, Pt.slots] at X7 l7 y7 z7 st7 hQ7
    subst l7 y7 z7
    obtain ⟨rfl, N7q, qa⟩ := hQ7
    have N7 := Fr.app N0 N7q
    have hv : own_nlz64 q1 = (own_nlz hi) := by
      have e : own_hi q1 = hi := hd_hi.symm
      show (if own_hi q1 = (0 : Int32) then (32 : Int32) + own_nlz (q1.toInt32) else own_nlz (own_hi q1)) = _
      rw [e]; exact if_neg cd7
    have k9 : ∀ t, Steps p.tables e below (T7.setTop (mkF m 25 #[.val (.long q1), .second, .val (.int hi)] [(.int (own_nlz hi))])) t → Steps p.tables e below (s₁.setTop (entryFrame m #[(.long q1)] 3)) t := fun t k => k3 t (by
      show Steps p.tables e below (s₁.setTop (mkF m 7 #[.val (.long q1), .second, .val (.int hi)] [(.int hi)])) _
      refine XS.ifYes X0.here hx rfl (pc0 := 7) (pc' := 21) rfl (hb hby d2_7) rfl ((if0 _ _).trans (feq cd7).2) (by decide) (by decide) ?_
      show Steps p.tables e below (s₁.setTop (mkF m 21 #[.val (.long q1), .second, .val (.int hi)] [])) _
      refine XS.iloadN X0.here hx rfl (hb hby d2_21) rfl ?_
      show Steps p.tables e below (s₁.setTop (mkF m 22 #[.val (.long q1), .second, .val (.int hi)] [(.int hi)])) _
      refine st7 _ ?_
      exact k)
    obtain ⟨fs, hr, hrun, hended, hW, hsame⟩ := X7.leave (v := some (.int (own_nlz hi))) (fun h => by rw [Bd.returns] at h; cases h)
    refine ⟨_, _, k9 _ ?_, hrun, hended, _, _, rfl, ?_, ⟨_, rfl⟩, hW, hsame.mono (by decide) (by decide)⟩
    · show Steps p.tables e below (T7.setTop (mkF m 25 #[.val (.long q1), .second, .val (.int hi)] [(.int (own_nlz hi))])) _
      exact retI X7 hx Bd.returns (hb hby d2_25) hr
    ·
      show QnlzL _ q1 h0 n0 _ T7.heap _
      rw [qa]
      exact ⟨by rw [hv], N7, rfl⟩
theorem own_div_div (x s w : Nat) : x / 2 ^ s / 2 ^ w = x / 2 ^ (s + w) := by rw [Nat.div_div_eq_div_mul, Nat.pow_add]
/-- one block: i is x divided by 2^s, below 2^(2w) -/
theorem own_blk {x : Nat} {i n lim sh dn : Int32} {s w u : Nat} (hw : w ≤ 16) (hsh : sh.toBitVec.toNat % 32 = w) (hw0 : 0 < w) (hl : lim.toInt = ((2 ^ w : Nat) : Int)) (hdn : dn.toInt = -(w : Int)) (hs : s + w ≤ 31) (hu : u ≤ 2 * w) (hi0 : 0 < i.toInt) (hi : i.toInt = ((x / 2 ^ s : Nat) : Int)) (hiu : i.toInt < ((2 ^ u : Nat) : Int)) (hn : n.toInt = 31 - (s : Int)) :
    ∃ s' : Nat, (s' = s ∨ s' = s + w) ∧ 0 < (if i < lim then i else ((i.toUInt32 >>> (sh &&& 31).toUInt32).toInt32)).toInt ∧ (if i < lim then i else ((i.toUInt32 >>> (sh &&& 31).toUInt32).toInt32)).toInt = ((x / 2 ^ s' : Nat) : Int) ∧
      (if i < lim then i else ((i.toUInt32 >>> (sh &&& 31).toUInt32).toInt32)).toInt < ((2 ^ w : Nat) : Int) ∧ (if i < lim then n else (n + dn)).toInt = 31 - (s' : Int) := by
  by_cases h : i < lim
  · simp only [if_pos h]
    have h' := Int32.lt_iff_toInt_lt.mp h
    exact ⟨s, Or.inl rfl, hi0, hi, by omega, hn⟩
  · simp only [if_neg h]
    have h' : ¬ i.toInt < lim.toInt := fun q => h (Int32.lt_iff_toInt_lt.mpr q)
    have q := c_iushr i sh w hsh hw0
    have r := rng32 i
    have e : i.toInt % 4294967296 = i.toInt := by omega
    rw [e, hi] at q
    have q' : ((i.toUInt32 >>> (sh &&& 31).toUInt32).toInt32).toInt = ((x / 2 ^ (s + w) : Nat) : Int) := by rw [q, ← own_div_div]; rfl
    have hp : 0 < 2 ^ w := Nat.two_pow_pos w
    have h1 : 2 ^ w ≤ x / 2 ^ s := by omega
    have h2 : 0 < x / 2 ^ (s + w) := by rw [← own_div_div]; exact Nat.div_pos h1 hp
    have h3 : x / 2 ^ (s + w) < 2 ^ w := by
      rw [← own_div_div]
      have h4 : x / 2 ^ s < 2 ^ u := by omega
      have h5 : 2 ^ u ≤ 2 ^ (w + w) := Nat.pow_le_pow_right (by omega) (by omega)
      rw [Nat.pow_add] at h5
      exact Nat.div_lt_of_lt_mul (by omega)
    have hd := c_iadd n dn
    have rd := rng32 (n + dn)
    refine ⟨s + w, Or.inr rfl, by omega, q', by omega, ?_⟩
    omega
theorem own_chain_prop (x : Int32) (hx : 0 < x.toInt) : ∃ k : Nat, k ≤ 30 ∧ (own_chain x).toInt = 31 - (k : Int) ∧ x.toInt.toNat / 2 ^ k = 1 := by
  have r := rng32 x
  have hx0 : x.toInt = ((x.toInt.toNat / 2 ^ 0 : Nat) : Int) := by rw [Nat.pow_zero, Nat.div_one]; omega
  have e31 : ((2 ^ 31 : Nat) : Int) = 2147483648 := by decide
  have hx1 : x.toInt < ((2 ^ 31 : Nat) : Int) := by rw [e31]; exact r.2
  obtain ⟨s1, hs1, a1, b1, c1, d1⟩ := own_blk (x := x.toInt.toNat) (i := x) (n := 31) (lim := 65536) (sh := 16) (dn := -16) (s := 0) (w := 16) (u := 31) (by decide) (by decide) (by decide) (by decide) (by decide) (by decide) (by decide) hx hx0 hx1 (by decide)
  obtain ⟨s2, hs2, a2, b2, c2, d2⟩ := own_blk (lim := 256) (sh := 8) (dn := -8) (w := 8) (u := 16) (by decide) (by decide) (by decide) (by decide) (by decide) (by omega) (by decide) a1 b1 c1 d1
  obtain ⟨s3, hs3, a3, b3, c3, d3⟩ := own_blk (lim := 16) (sh := 4) (dn := -4) (w := 4) (u := 8) (by decide) (by decide) (by decide) (by decide) (by decide) (by omega) (by decide) a2 b2 c2 d2
  obtain ⟨s4, hs4, a4, b4, c4, d4⟩ := own_blk (lim := 4) (sh := 2) (dn := -2) (w := 2) (u := 4) (by decide) (by decide) (by decide) (by decide) (by decide) (by omega) (by decide) a3 b3 c3 d3
  have hz := fun (n4 i4 : Int32) (a4 : 0 < i4.toInt) (b4 : i4.toInt = ((x.toInt.toNat / 2 ^ s4 : Nat) : Int)) (c4 : i4.toInt < ((2 ^ 2 : Nat) : Int)) (d4 : n4.toInt = 31 - (s4 : Int)) => by
    have q := c_iushr i4 1 1 (by decide) (by decide)
    have e : i4.toInt % 4294967296 = i4.toInt := by have := rng32 i4; omega
    rw [e] at q
    have p1 : ((2 ^ 1 : Nat) : Int) = 2 := by decide
    have p2 : ((2 ^ 2 : Nat) : Int) = 4 := by decide
    rw [p1] at q
    have hd := c_isub n4 ((i4.toUInt32 >>> ((1 : Int32) &&& 31).toUInt32).toInt32)
    have rd := rng32 (n4 - ((i4.toUInt32 >>> ((1 : Int32) &&& 31).toUInt32).toInt32))
    have hd1 := own_div_div x.toInt.toNat s4 1
    have hd0 := own_div_div x.toInt.toNat s4 0
    have g1 : (2 : Nat) ^ 1 = 2 := by decide
    rw [g1] at hd1
    by_cases h1 : i4.toInt = 1
    · exact (show ∃ k : Nat, k ≤ 31 ∧ (n4 - ((i4.toUInt32 >>> ((1 : Int32) &&& 31).toUInt32).toInt32)).toInt = 31 - (k : Int) ∧ x.toInt.toNat / 2 ^ k = 1 from ⟨s4, by omega, by omega, by omega⟩)
    · exact ⟨s4 + 1, by omega, by omega, by omega⟩
  obtain ⟨k, k1, k2, k3⟩ := hz _ _ a4 b4 c4 d4
  refine ⟨k, ?_, k2, k3⟩
  apply Nat.le_of_not_lt
  intro hk
  have h5 : 2 ^ 31 ≤ 2 ^ k := Nat.pow_le_pow_right (by decide) hk
  have g31 : (2 : Nat) ^ 31 = 2147483648 := by decide
  rw [Nat.div_eq_of_lt (by omega)] at k3
  omega
theorem own_nlz64_prop (q : Int64) (h0 : 0 < q.toInt) (h1 : q.toInt ≤ 4611686018427387904) : ∃ k : Nat, k ≤ 62 ∧ (own_nlz64 q).toInt = 63 - (k : Int) ∧ q.toInt.toNat / 2 ^ k = 1 := by
  have p32 : ((2 ^ 32 : Nat) : Int) = 4294967296 := by decide
  have g32 : (2 : Nat) ^ 32 = 4294967296 := by decide
  have hs := c_lushr q 32 32 (by decide) (by decide)
  rw [p32] at hs
  have hh : (own_hi q).toInt = q.toInt / 4294967296 := by
    have e := c_l2i ((q.toUInt64 >>> ((32 : Int32) &&& 0x3f).toInt64.toUInt64).toInt64)
    have r := rng32 (own_hi q)
    show (((q.toUInt64 >>> ((32 : Int32) &&& 0x3f).toInt64.toUInt64).toInt64).toInt32).toInt = _
    have r' : -2147483648 ≤ (((q.toUInt64 >>> ((32 : Int32) &&& 0x3f).toInt64.toUInt64).toInt64).toInt32).toInt ∧ (((q.toUInt64 >>> ((32 : Int32) &&& 0x3f).toInt64.toUInt64).toInt64).toInt32).toInt < 2147483648 := r
    omega
  have z0 : (0 : Int32).toInt = 0 := by decide
  have z32 : (32 : Int32).toInt = 32 := by decide
  by_cases hz : own_hi q = (0 : Int32)
  · have hz' : q.toInt / 4294967296 = 0 := by rw [← hh, hz]; exact z0
    rw [show own_nlz64 q = (32 : Int32) + own_nlz (q.toInt32) from if_pos hz]
    have el := c_l2i q
    have rl := rng32 q.toInt32
    have ad := c_iadd (32 : Int32) (own_nlz (q.toInt32))
    have ra := rng32 ((32 : Int32) + own_nlz (q.toInt32))
    rw [z32] at ad
    by_cases hp : 0 < q.toInt32.toInt
    · obtain ⟨k, k1, k2, k3⟩ := own_chain_prop q.toInt32 hp
      rw [show own_nlz q.toInt32 = own_chain q.toInt32 from if_pos (Int32.lt_iff_toInt_lt.mpr (by rw [z0]; exact hp))] at ad ra ⊢
      refine ⟨k, by omega, by omega, ?_⟩
      have e : q.toInt.toNat = q.toInt32.toInt.toNat := by omega
      rw [e]; exact k3
    · have n1 : ¬ (0 : Int32) < q.toInt32 := fun q' => hp (by have := Int32.lt_iff_toInt_lt.mp q'; omega)
      have n2 : ¬ q.toInt32 = (0 : Int32) := fun q' => by have := congrArg Int32.toInt q'; omega
      rw [show own_nlz q.toInt32 = (0 : Int32) from (if_neg n1).trans (if_neg n2)] at ad ra ⊢
      have g31 : (2 : Nat) ^ 31 = 2147483648 := by decide
      refine ⟨31, by decide, ?_, ?_⟩
      · omega
      · rw [g31]; omega
  · rw [show own_nlz64 q = own_nlz (own_hi q) from if_neg hz]
    have hne : (own_hi q).toInt ≠ 0 := fun q' => hz (Int32.toInt_inj.mp (by rw [q', z0]))
    have hp : 0 < (own_hi q).toInt := by omega
    obtain ⟨k, k1, k2, k3⟩ := own_chain_prop (own_hi q) hp
    rw [show own_nlz (own_hi q) = own_chain (own_hi q) from if_pos (Int32.lt_iff_toInt_lt.mpr (by rw [z0]; exact hp))]
    have e : (own_hi q).toInt.toNat = q.toInt.toNat / 2 ^ 32 := by rw [g32]; omega
    rw [e, own_div_div] at k3
    refine ⟨32 + k, by omega, by omega, k3⟩
theorem pd__J_I : parseMethodDescriptor "(J)I" = some ⟨[.long], some .int⟩ := by decide +kernel
theorem d1_0 : decode prog_19_method_15_code 0 = .ok (.iload_n 0, 1) := by decide +kernel
theorem d1_1 : decode prog_19_method_15_code 1 = .ok (.i2l, 1) := by decide +kernel
theorem d1_2 : decode prog_19_method_15_code 2 = .ok (.lconst 1, 1) := by decide +kernel
theorem d1_3 : decode prog_19_method_15_code 3 = .ok (.ladd, 1) := by decide +kernel
theorem d1_4 : decode prog_19_method_15_code 4 = .ok (.iload_n 0, 1) := by decide +kernel
theorem d1_5 : decode prog_19_method_15_code 5 = .ok (.i2l, 1) := by decide +kernel
theorem d1_6 : decode prog_19_method_15_code 6 = .ok (.lconst 1, 1) := by decide +kernel
theorem d1_7 : decode prog_19_method_15_code 7 = .ok (.ladd, 1) := by decide +kernel
theorem d1_8 : decode prog_19_method_15_code 8 = .ok (.lmul, 1) := by decide +kernel
theorem d1_9 : decode prog_19_method_15_code 9 = .ok (.lstore_n 1, 1) := by decide +kernel
theorem d1_10 : decode prog_19_method_15_code 10 = .ok (.bipush 63, 2) := by decide +kernel
theorem d1_12 : decode prog_19_method_15_code 12 = .ok (.lload_n 1, 1) := by decide +kernel
theorem d1_13 : decode prog_19_method_15_code 13 = .ok (.invokestatic 45, 3) := by decide +kernel
theorem d1_16 : decode prog_19_method_15_code 16 = .ok (.isub, 1) := by decide +kernel
theorem d1_17 : decode prog_19_method_15_code 17 = .ok (.ireturn, 1) := by decide +kernel
theorem pn_1 : plainName "com/example/rosewood/rosewood/tree/Node" = true := by first | (simp [plainName, overriddenIn]; done) | decide +kernel
theorem ef_hb (m : MethodId) (x0 : Int32) : entryFrame m #[(.int x0)] 3 = mkF m 0 #[.val (.int x0), .unset, .unset] [] := by first | (simp [entryFrame, mkF, argsToLocals, Value.category]; done) | rfl
def Qhb (Z : State) (p1 : Int32) (h0 : Heap) (n0 : Nat) (v : Option Value) (h : Heap) (L : List Loc) : Prop := v = some (.int ((63 : Int32) - (own_nlz64 (((p1.toInt64) + (1 : Int64)) * ((p1.toInt64) + (1 : Int64)))))) ∧ Fr n0 L ∧ h = h0
set_option maxRecDepth 65536 in
set_option maxHeartbeats 40000000 in
theorem rm_hb (l : Launch) (Z : State) (a0 : Array Value) (hw : ∀ d ∈ tables_1, d.before a0 Z = true) (ws : List Jvm.Cond) (p1 : Int32) (h0 : Heap) (n0 : Nat) (Z0 : n0 ≤ h0.size) :
    MetFree l (⟨"com/example/rosewood/rosewood/tree/Node", "heightBound", "(I)I"⟩ : MethodName) (head1 (Jvm.Cond.code (⟨"com/example/rosewood/rosewood/tree/Node", "heightBound", "(I)I"⟩ : MethodName) prog_19_method_15_code 3 (some .int) :: ws) ({ frames := 2, cells := 0, slots := 0, locals := 29 } : Room)) (fun a U => a = #[(.int p1)] ∧ Z.Warmed39 U.vm ∧ U.heap = h0) (fun _ _ _ _ _ => True) (fun _ U o U' => ∃ v L, o = .returned v ∧ Qhb Z p1 h0 n0 v U'.heap L ∧ FrameEnd U o U' L ({ frames := 2, cells := 0, slots := 0, locals := 29 } : Room).cells ({ frames := 2, cells := 0, slots := 0, locals := 29 } : Room).slots) := by
  refine MetFree.of_bodySF (plainFor_of_name pn_1) hisR ?_
  intro p e s m args below meth c s₁ Bd hml0 hP hK
  obtain ⟨rfl, hZ, hh⟩ := hP
  have hx := Bd.exec
  have hby := Bd.bytes
  have hml : c.maxLocals = 3 := hml0
  have hown : s.vm.findClass "com/example/rosewood/rosewood/tree/Node" = some m.cls := findClass_of_methodNamed Bd.named
  have hnm := (name_of_methodNamed Bd.named Bd.method).1
  have X0 : Stand p l e ({ frames := 2, cells := 0, slots := 0, locals := 29 } : Room) s m #[(.int p1)] below meth c s₁ [] 0 0 := Stand.of_body Bd
  have e0 : s₁.heap = h0 := by rw [← hh, Bd.state]; rfl
  have N0 := Fr.nil n0
  have k0 : ∀ t, Steps p.tables e below (s₁.setTop (mkF m 0 #[.val (.int p1), .unset, .unset] [])) t → Steps p.tables e below (s₁.setTop (entryFrame m #[(.int p1)] 3)) t := fun t k => castTop (ef_hb m p1) k
  obtain ⟨_, _, ⟨T1, L1, kk1, n1⟩, -, X1, ⟨Lc1, hQ1, l1, y1, z1⟩, st1⟩ := Jvm.LawKit.callS X0 hx (y := (⟨"java/lang/Long", "numberOfLeadingZeros", "(J)I"⟩ : MethodName)) hown (mvT hZ (hw _ (List.mem_of_getElem? (i := 5) rfl))) (mvT hZ (hw _ (List.mem_of_getElem? (i := 6) rfl))) (mvT hZ (hw _ (List.mem_of_getElem? (i := 7) rfl))) (mvT hZ (hw _ (List.mem_of_getElem? (i := 8) rfl))) (by decide) (backOf (W := 1) (rm_nlzL l Z a0 hw [] (((p1.toInt64) + (1 : Int64)) * ((p1.toInt64) + (1 : Int64))) h0 n0 Z0) hZ (hw _ (List.mem_of_getElem? (i := 8) rfl)) (hw _ (List.mem_of_getElem? (i := 7) rfl)) (by decide) (by decide)) (g := (mkF m 13 #[.val (.int p1), .val (.long (((p1.toInt64) + (1 : Int64)) * ((p1.toInt64) + (1 : Int64)))), .second] [(.long (((p1.toInt64) + (1 : Int64)) * ((p1.toInt64) + (1 : Int64)))), (.int (63 : Int32))])) rfl (by rw [hml]; rfl) (argsL := [(.long (((p1.toInt64) + (1 : Int64)) * ((p1.toInt64) + (1 : Int64))))]) (rest := [(.int (63 : Int32))]) (lenOf pd__J_I rfl) rfl (by show 2 * 0 + _ ≤ _; exact Nat.le_of_eq rfl) (hb hby d1_13) (fun _ _ => ⟨rfl, e0, (by decide : 0 + 0 ≤ _), (by decide : 0 + 0 ≤ _)⟩)
  dsimp only [Pt.U, Pt.locs, Pt.cells, Pt.slots] at X1 l1 y1 z1 st1 hQ1
  subst l1 y1 z1
  obtain ⟨rfl, N1q, qa⟩ := hQ1
  have N1 := Fr.app N0 N1q
  have k3 : ∀ t, Steps p.tables e below (T1.setTop (mkF m 17 #[.val (.int p1), .val (.long (((p1.toInt64) + (1 : Int64)) * ((p1.toInt64) + (1 : Int64)))), .second] [(.int ((63 : Int32) - (own_nlz64 (((p1.toInt64) + (1 : Int64)) * ((p1.toInt64) + (1 : Int64))))))])) t → Steps p.tables e below (s₁.setTop (entryFrame m #[(.int p1)] 3)) t := fun t k => k0 t (by
    show Steps p.tables e below (s₁.setTop (mkF m 0 #[.val (.int p1), .unset, .unset] [])) _
    refine XS.iloadN X0.here hx rfl (hb hby d1_0) rfl ?_
    show Steps p.tables e below (s₁.setTop (mkF m 1 #[.val (.int p1), .unset, .unset] [(.int p1)])) _
    refine XS.i2l X0.here hx rfl (hb hby d1_1) rfl ?_
    show Steps p.tables e below (s₁.setTop (mkF m 2 #[.val (.int p1), .unset, .unset] [(.long (p1.toInt64))])) _
    refine XS.lconst X0.here hx rfl (hb hby d1_2) ?_
    show Steps p.tables e below (s₁.setTop (mkF m 3 #[.val (.int p1), .unset, .unset] [(.long (1 : Int64)), (.long (p1.toInt64))])) _
    refine XS.ladd X0.here hx rfl (hb hby d1_3) rfl ?_
    show Steps p.tables e below (s₁.setTop (mkF m 4 #[.val (.int p1), .unset, .unset] [(.long ((p1.toInt64) + (1 : Int64)))])) _
    refine XS.iloadN X0.here hx rfl (hb hby d1_4) rfl ?_
    show Steps p.tables e below (s₁.setTop (mkF m 5 #[.val (.int p1), .unset, .unset] [(.int p1), (.long ((p1.toInt64) + (1 : Int64)))])) _
    refine XS.i2l X0.here hx rfl (hb hby d1_5) rfl ?_
    show Steps p.tables e below (s₁.setTop (mkF m 6 #[.val (.int p1), .unset, .unset] [(.long (p1.toInt64)), (.long ((p1.toInt64) + (1 : Int64)))])) _
    refine XS.lconst X0.here hx rfl (hb hby d1_6) ?_
    show Steps p.tables e below (s₁.setTop (mkF m 7 #[.val (.int p1), .unset, .unset] [(.long (1 : Int64)), (.long (p1.toInt64)), (.long ((p1.toInt64) + (1 : Int64)))])) _
    refine XS.ladd X0.here hx rfl (hb hby d1_7) rfl ?_
    show Steps p.tables e below (s₁.setTop (mkF m 8 #[.val (.int p1), .unset, .unset] [(.long ((p1.toInt64) + (1 : Int64))), (.long ((p1.toInt64) + (1 : Int64)))])) _
    refine XS.lmul X0.here hx rfl (hb hby d1_8) rfl ?_
    show Steps p.tables e below (s₁.setTop (mkF m 9 #[.val (.int p1), .unset, .unset] [(.long (((p1.toInt64) + (1 : Int64)) * ((p1.toInt64) + (1 : Int64))))])) _
    refine XS.lstoreN X0.here hx rfl (hb hby d1_9) rfl (l' := #[.val (.int p1), .val (.long (((p1.toInt64) + (1 : Int64)) * ((p1.toInt64) + (1 : Int64)))), .second]) rfl ?_
    show Steps p.tables e below (s₁.setTop (mkF m 10 #[.val (.int p1), .val (.long (((p1.toInt64) + (1 : Int64)) * ((p1.toInt64) + (1 : Int64)))), .second] [])) _
    refine XS.bipush X0.here hx rfl (hb hby d1_10) ?_
    show Steps p.tables e below (s₁.setTop (mkF m 12 #[.val (.int p1), .val (.long (((p1.toInt64) + (1 : Int64)) * ((p1.toInt64) + (1 : Int64)))), .second] [(.int (63 : Int32))])) _
    refine XS.lloadN X0.here hx rfl (hb hby d1_12) rfl ?_
    show Steps p.tables e below (s₁.setTop (mkF m 13 #[.val (.int p1), .val (.long (((p1.toInt64) + (1 : Int64)) * ((p1.toInt64) + (1 : Int64)))), .second] [(.long (((p1.toInt64) + (1 : Int64)) * ((p1.toInt64) + (1 : Int64)))), (.int (63 : Int32))])) _
    refine st1 _ ?_
    show Steps p.tables e below (T1.setTop (mkF m 16 #[.val (.int p1), .val (.long (((p1.toInt64) + (1 : Int64)) * ((p1.toInt64) + (1 : Int64)))), .second] [(.int (own_nlz64 (((p1.toInt64) + (1 : Int64)) * ((p1.toInt64) + (1 : Int64))))), (.int (63 : Int32))])) _
    refine XS.isub X1.here hx rfl (hb hby d1_16) rfl ?_
    exact k)
  obtain ⟨fs, hr, hrun, hended, hW, hsame⟩ := X1.leave (v := some (.int ((63 : Int32) - (own_nlz64 (((p1.toInt64) + (1 : Int64)) * ((p1.toInt64) + (1 : Int64))))))) (fun h => by rw [Bd.returns] at h; cases h)
  refine ⟨_, _, k3 _ ?_, hrun, hended, _, _, rfl, ?_, ⟨_, rfl⟩, hW, hsame.mono (by decide) (by decide)⟩
  · show Steps p.tables e below (T1.setTop (mkF m 17 #[.val (.int p1), .val (.long (((p1.toInt64) + (1 : Int64)) * ((p1.toInt64) + (1 : Int64)))), .second] [(.int ((63 : Int32) - (own_nlz64 (((p1.toInt64) + (1 : Int64)) * ((p1.toInt64) + (1 : Int64))))))])) _
    exact retI X1 hx Bd.returns (hb hby d1_17) hr
  ·
    show Qhb _ p1 h0 n0 _ T1.heap _
    rw [qa]
    exact ⟨rfl, N1, rfl⟩
theorem own_shl : ∀ k : Fin 63, ((1 : Int64) <<< ((Int32.ofInt ((k.1 : Nat) : Int)) &&& 0x3f).toInt64).toInt = ((2 ^ k.1 : Nat) : Int) := by decide +kernel
theorem own_law (n : Int32) (hn : 0 ≤ n.toInt) (sq : Int64) (hsq : sq = (((n.toInt64) + (1 : Int64)) * ((n.toInt64) + (1 : Int64)))) (hh : Int32) (hd : hh = ((63 : Int32) - (own_nlz64 sq))) :
    ¬ hh < (0 : Int32) ∧ ¬ (62 : Int32) < hh ∧ ¬ sq < ((1 : Int64) <<< (hh &&& 0x3f).toInt64) ∧ (¬ hh = (62 : Int32) → sq < ((1 : Int64) <<< ((hh + (1 : Int32)) &&& 0x3f).toInt64)) := by
  have r := rng32 n
  have e0 := c_i2l n
  have z1 : (1 : Int64).toInt = 1 := by decide
  have q1 := c_ladd n.toInt64 (1 : Int64)
  have r1 := rng64 (n.toInt64 + (1 : Int64))
  rw [z1, e0] at q1
  have e1 : (n.toInt64 + (1 : Int64)).toInt = n.toInt + 1 := by omega
  have q2 := c_lmul (n.toInt64 + (1 : Int64)) (n.toInt64 + (1 : Int64))
  rw [e1, ← hsq] at q2
  have r2 := rng64 sq
  have hP0 : 1 ≤ (n.toInt + 1) * (n.toInt + 1) := by
    have := Int.mul_le_mul (a := 1) (b := 1) (c := n.toInt + 1) (d := n.toInt + 1) (by omega) (by omega) (by omega) (by omega)
    omega
  have hP1 : (n.toInt + 1) * (n.toInt + 1) ≤ 4611686018427387904 := by
    have := Int.mul_le_mul (a := n.toInt + 1) (b := n.toInt + 1) (c := 2147483648) (d := 2147483648) (by omega) (by omega) (by omega) (by omega)
    omega
  have e2 : sq.toInt = (n.toInt + 1) * (n.toInt + 1) := by omega
  obtain ⟨k, k1, k2, k3⟩ := own_nlz64_prop sq (by omega) (by omega)
  have z63 : (63 : Int32).toInt = 63 := by decide
  have z0 : (0 : Int32).toInt = 0 := by decide
  have z62 : (62 : Int32).toInt = 62 := by decide
  have z1' : (1 : Int32).toInt = 1 := by decide
  have q3 := c_isub (63 : Int32) (own_nlz64 sq)
  have r3 := rng32 hh
  rw [z63, ← hd] at q3
  have e3 : hh.toInt = (k : Int) := by omega
  have hhk : hh = Int32.ofInt ((k : Nat) : Int) := by rw [← e3, Int32.ofInt_toInt]
  have hp : 0 < 2 ^ k := Nat.two_pow_pos k
  have lo : 2 ^ k ≤ sq.toInt.toNat := by
    apply Nat.le_of_not_lt; intro h; rw [Nat.div_eq_of_lt h] at k3; omega
  have hi : sq.toInt.toNat < 2 ^ (k + 1) := by
    have := Nat.lt_mul_of_div_lt (a := sq.toInt.toNat) (b := 2) (c := 2 ^ k) (by omega) hp
    rw [Nat.pow_succ]; omega
  refine ⟨?_, ?_, ?_, ?_⟩
  · rw [Int32.lt_iff_toInt_lt, z0]; omega
  · rw [Int32.lt_iff_toInt_lt, z62]; omega
  · have := own_shl ⟨k, by omega⟩
    rw [Int64.lt_iff_toInt_lt, hhk, this]
    simp only
    omega
  · intro h
    have hk : k ≠ 62 := fun q => h (Int32.toInt_inj.mp (by rw [e3, q, z62]; rfl))
    have hs := c_iadd hh (1 : Int32)
    have rs := rng32 (hh + (1 : Int32))
    rw [z1'] at hs
    have e4 : (hh + (1 : Int32)).toInt = ((k + 1 : Nat) : Int) := by omega
    have e5 : (hh + (1 : Int32)) = Int32.ofInt ((k + 1 : Nat) : Int) := by rw [← e4, Int32.ofInt_toInt]
    have := own_shl ⟨k + 1, by omega⟩
    rw [Int64.lt_iff_toInt_lt, e5, this]
    simp only
    omega
theorem pn_0 : plainName "com/example/rosewood/rosewood/tree/NodeHeightBoundPinLaw" = true := by first | (simp [plainName, overriddenIn]; done) | decide +kernel
theorem ef_law (m : MethodId) (x0 : Int32) : entryFrame m #[(.int x0)] maxLocals = mkF m 0 #[.val (.int x0), .unset, .unset, .unset, .unset, .unset, .unset, .unset, .unset] [] := by first | (simp [entryFrame, mkF, argsToLocals, Value.category, maxLocals]; done) | rfl
def Qlaw (Z : State) (p1 : Int32) (h0 : Heap) (n0 : Nat) (v : Option Value) (h : Heap) (L : List Loc) : Prop := v = some (.int (1 : Int32)) ∧ Fr n0 L
set_option maxRecDepth 65536 in
set_option maxHeartbeats 40000000 in
theorem rm_law (l : Launch) (Z : State) (a0 : Array Value) (hw : ∀ d ∈ tables_1, d.before a0 Z = true) (ws : List Jvm.Cond) (p1 : Int32) (h0 : Heap) (n0 : Nat) (Z0 : n0 ≤ h0.size) :
    MetFree l x (head1 (Jvm.Cond.code x code maxLocals ret :: ws) room_1) (fun a U => a = #[(.int p1)] ∧ Z.Warmed39 U.vm ∧ U.heap = h0) (fun _ _ _ _ _ => True) (fun _ U o U' => ∃ v L, o = .returned v ∧ Qlaw Z p1 h0 n0 v U'.heap L ∧ FrameEnd U o U' L room_1.cells room_1.slots) := by
  refine MetFree.of_bodySF (plainFor_of_name pn_0) hisR ?_
  intro p e s m args below meth c s₁ Bd hml0 hP hK
  obtain ⟨rfl, hZ, hh⟩ := hP
  have hx := Bd.exec
  have hby := Bd.bytes
  have hml : c.maxLocals = 9 := hml0
  have hown : s.vm.findClass "com/example/rosewood/rosewood/tree/NodeHeightBoundPinLaw" = some m.cls := findClass_of_methodNamed Bd.named
  have hnm := (name_of_methodNamed Bd.named Bd.method).1
  have X0 : Stand p l e room_1 s m #[(.int p1)] below meth c s₁ [] 0 0 := Stand.of_body Bd
  have e0 : s₁.heap = h0 := by rw [← hh, Bd.state]; rfl
  have N0 := Fr.nil n0
  have k0 : ∀ t, Steps p.tables e below (s₁.setTop (mkF m 0 #[.val (.int p1), .unset, .unset, .unset, .unset, .unset, .unset, .unset, .unset] [])) t → Steps p.tables e below (s₁.setTop (entryFrame m #[(.int p1)] maxLocals)) t := fun t k => castTop (ef_law m p1) k
  have k1 : ∀ t, Steps p.tables e below (s₁.setTop (mkF m 5 #[.val (.int p1), .val (.int (p1 &&& (2147483647 : Int32))), .unset, .unset, .unset, .unset, .unset, .unset, .unset] [])) t → Steps p.tables e below (s₁.setTop (entryFrame m #[(.int p1)] maxLocals)) t := fun t k => k0 t (by
    show Steps p.tables e below (s₁.setTop (mkF m 0 #[.val (.int p1), .unset, .unset, .unset, .unset, .unset, .unset, .unset, .unset] [])) _
    refine XS.iloadN X0.here hx rfl (hb hby at_0) rfl ?_
    show Steps p.tables e below (s₁.setTop (mkF m 1 #[.val (.int p1), .unset, .unset, .unset, .unset, .unset, .unset, .unset, .unset] [(.int p1)])) _
    refine X0.ldcInt hx hown (mvT hZ (hw _ (List.mem_of_getElem? (i := 0) rfl))) (g := (mkF m 1 #[.val (.int p1), .unset, .unset, .unset, .unset, .unset, .unset, .unset, .unset] [(.int p1)])) rfl (hb hby at_1) _ ?_
    show Steps p.tables e below (s₁.setTop (mkF m 3 #[.val (.int p1), .unset, .unset, .unset, .unset, .unset, .unset, .unset, .unset] [(.int (2147483647 : Int32)), (.int p1)])) _
    refine XS.iand X0.here hx rfl (hb hby at_3) rfl ?_
    show Steps p.tables e below (s₁.setTop (mkF m 4 #[.val (.int p1), .unset, .unset, .unset, .unset, .unset, .unset, .unset, .unset] [(.int (p1 &&& (2147483647 : Int32)))])) _
    refine XS.istoreN X0.here hx rfl (hb hby at_4) rfl (l' := #[.val (.int p1), .val (.int (p1 &&& (2147483647 : Int32))), .unset, .unset, .unset, .unset, .unset, .unset, .unset]) rfl ?_
    exact k)
  obtain ⟨nn, hd_nn⟩ : ∃ z : Int32, z = (p1 &&& (2147483647 : Int32)) := ⟨_, rfl⟩
  have k2 : ∀ t, Steps p.tables e below (s₁.setTop (mkF m 5 #[.val (.int p1), .val (.int nn), .unset, .unset, .unset, .unset, .unset, .unset, .unset] [])) t → Steps p.tables e below (s₁.setTop (entryFrame m #[(.int p1)] maxLocals)) t := by rw [hd_nn]; exact k1
  have nn0 : 0 ≤ nn.toInt := by
    have h1 := c_mask p1 2147483647 31 (by decide) (by decide)
    rw [hd_nn, h1]; omega
  obtain ⟨_, _, ⟨T3, L3, kk3, n3⟩, -, X3, ⟨Lc3, hQ3, l3, y3, z3⟩, st3⟩ := Jvm.LawKit.callS X0 hx (y := (⟨"com/example/rosewood/rosewood/tree/Node", "heightBound", "(I)I"⟩ : MethodName)) hown (mvT hZ (hw _ (List.mem_of_getElem? (i := 1) rfl))) (mvT hZ (hw _ (List.mem_of_getElem? (i := 2) rfl))) (mvT hZ (hw _ (List.mem_of_getElem? (i := 3) rfl))) (mvT hZ (hw _ (List.mem_of_getElem? (i := 4) rfl))) (by decide) (backOf (W := 0) (rm_hb l Z a0 hw [] nn h0 n0 Z0) hZ (hw _ (List.mem_of_getElem? (i := 4) rfl)) (hw _ (List.mem_of_getElem? (i := 3) rfl)) (by decide) (by decide)) (g := (mkF m 6 #[.val (.int p1), .val (.int nn), .unset, .unset, .unset, .unset, .unset, .unset, .unset] [(.int nn)])) rfl (by rw [hml]; rfl) (argsL := [(.int nn)]) (rest := []) (lenOf pd__I_I rfl) rfl (by show 2 * 0 + _ ≤ _; exact Nat.le_of_eq rfl) (hb hby at_6) (fun _ _ => ⟨rfl, e0, (by decide : 0 + 0 ≤ _), (by decide : 0 + 0 ≤ _)⟩)
  dsimp only [Pt.U, Pt.locs, Pt.cells, Pt.slots] at X3 l3 y3 z3 st3 hQ3
  subst l3 y3 z3
  obtain ⟨rfl, N3q, qa⟩ := hQ3
  have N3 := Fr.app N0 N3q
  have k4 : ∀ t, Steps p.tables e below (T3.setTop (mkF m 10 #[.val (.int p1), .val (.int nn), .val (.int ((63 : Int32) - (own_nlz64 (((nn.toInt64) + (1 : Int64)) * ((nn.toInt64) + (1 : Int64)))))), .unset, .unset, .unset, .unset, .unset, .unset] [])) t → Steps p.tables e below (s₁.setTop (entryFrame m #[(.int p1)] maxLocals)) t := fun t k => k2 t (by
    show Steps p.tables e below (s₁.setTop (mkF m 5 #[.val (.int p1), .val (.int nn), .unset, .unset, .unset, .unset, .unset, .unset, .unset] [])) _
    refine XS.iloadN X0.here hx rfl (hb hby at_5) rfl ?_
    show Steps p.tables e below (s₁.setTop (mkF m 6 #[.val (.int p1), .val (.int nn), .unset, .unset, .unset, .unset, .unset, .unset, .unset] [(.int nn)])) _
    refine st3 _ ?_
    show Steps p.tables e below (T3.setTop (mkF m 9 #[.val (.int p1), .val (.int nn), .unset, .unset, .unset, .unset, .unset, .unset, .unset] [(.int ((63 : Int32) - (own_nlz64 (((nn.toInt64) + (1 : Int64)) * ((nn.toInt64) + (1 : Int64))))))])) _
    refine XS.istoreN X3.here hx rfl (hb hby at_9) rfl (l' := #[.val (.int p1), .val (.int nn), .val (.int ((63 : Int32) - (own_nlz64 (((nn.toInt64) + (1 : Int64)) * ((nn.toInt64) + (1 : Int64)))))), .unset, .unset, .unset, .unset, .unset, .unset]) rfl ?_
    exact k)
  obtain ⟨hh, hd_hh⟩ : ∃ z : Int32, z = ((63 : Int32) - (own_nlz64 (((nn.toInt64) + (1 : Int64)) * ((nn.toInt64) + (1 : Int64))))) := ⟨_, rfl⟩
  have k5 : ∀ t, Steps p.tables e below (T3.setTop (mkF m 10 #[.val (.int p1), .val (.int nn), .val (.int hh), .unset, .unset, .unset, .unset, .unset, .unset] [])) t → Steps p.tables e below (s₁.setTop (entryFrame m #[(.int p1)] maxLocals)) t := by rw [hd_hh]; exact k4
  have k6 : ∀ t, Steps p.tables e below (T3.setTop (mkF m 20 #[.val (.int p1), .val (.int nn), .val (.int hh), .val (.long ((nn.toInt64) + (1 : Int64))), .second, .val (.long (((nn.toInt64) + (1 : Int64)) * ((nn.toInt64) + (1 : Int64)))), .second, .unset, .unset] [])) t → Steps p.tables e below (s₁.setTop (entryFrame m #[(.int p1)] maxLocals)) t := fun t k => k5 t (by
    show Steps p.tables e below (T3.setTop (mkF m 10 #[.val (.int p1), .val (.int nn), .val (.int hh), .unset, .unset, .unset, .unset, .unset, .unset] [])) _
    refine XS.iloadN X3.here hx rfl (hb hby at_10) rfl ?_
    show Steps p.tables e below (T3.setTop (mkF m 11 #[.val (.int p1), .val (.int nn), .val (.int hh), .unset, .unset, .unset, .unset, .unset, .unset] [(.int nn)])) _
    refine XS.i2l X3.here hx rfl (hb hby at_11) rfl ?_
    show Steps p.tables e below (T3.setTop (mkF m 12 #[.val (.int p1), .val (.int nn), .val (.int hh), .unset, .unset, .unset, .unset, .unset, .unset] [(.long (nn.toInt64))])) _
    refine XS.lconst X3.here hx rfl (hb hby at_12) ?_
    show Steps p.tables e below (T3.setTop (mkF m 13 #[.val (.int p1), .val (.int nn), .val (.int hh), .unset, .unset, .unset, .unset, .unset, .unset] [(.long (1 : Int64)), (.long (nn.toInt64))])) _
    refine XS.ladd X3.here hx rfl (hb hby at_13) rfl ?_
    show Steps p.tables e below (T3.setTop (mkF m 14 #[.val (.int p1), .val (.int nn), .val (.int hh), .unset, .unset, .unset, .unset, .unset, .unset] [(.long ((nn.toInt64) + (1 : Int64)))])) _
    refine XS.lstoreN X3.here hx rfl (hb hby at_14) rfl (l' := #[.val (.int p1), .val (.int nn), .val (.int hh), .val (.long ((nn.toInt64) + (1 : Int64))), .second, .unset, .unset, .unset, .unset]) rfl ?_
    show Steps p.tables e below (T3.setTop (mkF m 15 #[.val (.int p1), .val (.int nn), .val (.int hh), .val (.long ((nn.toInt64) + (1 : Int64))), .second, .unset, .unset, .unset, .unset] [])) _
    refine XS.lloadN X3.here hx rfl (hb hby at_15) rfl ?_
    show Steps p.tables e below (T3.setTop (mkF m 16 #[.val (.int p1), .val (.int nn), .val (.int hh), .val (.long ((nn.toInt64) + (1 : Int64))), .second, .unset, .unset, .unset, .unset] [(.long ((nn.toInt64) + (1 : Int64)))])) _
    refine XS.lloadN X3.here hx rfl (hb hby at_16) rfl ?_
    show Steps p.tables e below (T3.setTop (mkF m 17 #[.val (.int p1), .val (.int nn), .val (.int hh), .val (.long ((nn.toInt64) + (1 : Int64))), .second, .unset, .unset, .unset, .unset] [(.long ((nn.toInt64) + (1 : Int64))), (.long ((nn.toInt64) + (1 : Int64)))])) _
    refine XS.lmul X3.here hx rfl (hb hby at_17) rfl ?_
    show Steps p.tables e below (T3.setTop (mkF m 18 #[.val (.int p1), .val (.int nn), .val (.int hh), .val (.long ((nn.toInt64) + (1 : Int64))), .second, .unset, .unset, .unset, .unset] [(.long (((nn.toInt64) + (1 : Int64)) * ((nn.toInt64) + (1 : Int64))))])) _
    refine XS.lstore X3.here hx rfl (hb hby at_18) rfl (l' := #[.val (.int p1), .val (.int nn), .val (.int hh), .val (.long ((nn.toInt64) + (1 : Int64))), .second, .val (.long (((nn.toInt64) + (1 : Int64)) * ((nn.toInt64) + (1 : Int64)))), .second, .unset, .unset]) rfl ?_
    exact k)
  obtain ⟨sq, hd_sq⟩ : ∃ z : Int64, z = (((nn.toInt64) + (1 : Int64)) * ((nn.toInt64) + (1 : Int64))) := ⟨_, rfl⟩
  have k7 : ∀ t, Steps p.tables e below (T3.setTop (mkF m 20 #[.val (.int p1), .val (.int nn), .val (.int hh), .val (.long ((nn.toInt64) + (1 : Int64))), .second, .val (.long sq), .second, .unset, .unset] [])) t → Steps p.tables e below (s₁.setTop (entryFrame m #[(.int p1)] maxLocals)) t := by rw [hd_sq]; exact k6
  obtain ⟨f1, f2, f3, f4⟩ := own_law nn nn0 sq hd_sq hh (by rw [hd_hh, hd_sq])
  have k8 : ∀ t, Steps p.tables e below (T3.setTop (mkF m 51 #[.val (.int p1), .val (.int nn), .val (.int hh), .val (.long ((nn.toInt64) + (1 : Int64))), .second, .val (.long sq), .second, .val (.int (1 : Int32)), .unset] [(.int (62 : Int32)), (.int hh)])) t → Steps p.tables e below (s₁.setTop (entryFrame m #[(.int p1)] maxLocals)) t := fun t k => k7 t (by
    show Steps p.tables e below (T3.setTop (mkF m 20 #[.val (.int p1), .val (.int nn), .val (.int hh), .val (.long ((nn.toInt64) + (1 : Int64))), .second, .val (.long sq), .second, .unset, .unset] [])) _
    refine XS.iloadN X3.here hx rfl (hb hby at_20) rfl ?_
    show Steps p.tables e below (T3.setTop (mkF m 21 #[.val (.int p1), .val (.int nn), .val (.int hh), .val (.long ((nn.toInt64) + (1 : Int64))), .second, .val (.long sq), .second, .unset, .unset] [(.int hh)])) _
    refine XS.ifNo X3.here hx rfl (hb hby at_21) rfl ((if0 _ _).trans (flt f1).1) ?_
    show Steps p.tables e below (T3.setTop (mkF m 24 #[.val (.int p1), .val (.int nn), .val (.int hh), .val (.long ((nn.toInt64) + (1 : Int64))), .second, .val (.long sq), .second, .unset, .unset] [])) _
    refine XS.iloadN X3.here hx rfl (hb hby at_24) rfl ?_
    show Steps p.tables e below (T3.setTop (mkF m 25 #[.val (.int p1), .val (.int nn), .val (.int hh), .val (.long ((nn.toInt64) + (1 : Int64))), .second, .val (.long sq), .second, .unset, .unset] [(.int hh)])) _
    refine XS.bipush X3.here hx rfl (hb hby at_25) ?_
    show Steps p.tables e below (T3.setTop (mkF m 27 #[.val (.int p1), .val (.int nn), .val (.int hh), .val (.long ((nn.toInt64) + (1 : Int64))), .second, .val (.long sq), .second, .unset, .unset] [(.int (62 : Int32)), (.int hh)])) _
    refine XS.icmpYes X3.here hx rfl (pc0 := 27) (pc' := 32) rfl (hb hby at_27) rfl (flt f2).2.2.2 (by decide) (by decide) ?_
    show Steps p.tables e below (T3.setTop (mkF m 32 #[.val (.int p1), .val (.int nn), .val (.int hh), .val (.long ((nn.toInt64) + (1 : Int64))), .second, .val (.long sq), .second, .unset, .unset] [])) _
    refine XS.lconst X3.here hx rfl (hb hby at_32) ?_
    show Steps p.tables e below (T3.setTop (mkF m 33 #[.val (.int p1), .val (.int nn), .val (.int hh), .val (.long ((nn.toInt64) + (1 : Int64))), .second, .val (.long sq), .second, .unset, .unset] [(.long (1 : Int64))])) _
    refine XS.iloadN X3.here hx rfl (hb hby at_33) rfl ?_
    show Steps p.tables e below (T3.setTop (mkF m 34 #[.val (.int p1), .val (.int nn), .val (.int hh), .val (.long ((nn.toInt64) + (1 : Int64))), .second, .val (.long sq), .second, .unset, .unset] [(.int hh), (.long (1 : Int64))])) _
    refine XS.lshl X3.here hx rfl (hb hby at_34) rfl ?_
    show Steps p.tables e below (T3.setTop (mkF m 35 #[.val (.int p1), .val (.int nn), .val (.int hh), .val (.long ((nn.toInt64) + (1 : Int64))), .second, .val (.long sq), .second, .unset, .unset] [(.long ((1 : Int64) <<< (hh &&& 0x3f).toInt64))])) _
    refine XS.lload X3.here hx rfl (hb hby at_35) rfl ?_
    show Steps p.tables e below (T3.setTop (mkF m 37 #[.val (.int p1), .val (.int nn), .val (.int hh), .val (.long ((nn.toInt64) + (1 : Int64))), .second, .val (.long sq), .second, .unset, .unset] [(.long sq), (.long ((1 : Int64) <<< (hh &&& 0x3f).toInt64))])) _
    refine XS.lcmp X3.here hx rfl (hb hby at_37) rfl ?_
    show Steps p.tables e below (T3.setTop (mkF m 38 #[.val (.int p1), .val (.int nn), .val (.int hh), .val (.long ((nn.toInt64) + (1 : Int64))), .second, .val (.long sq), .second, .unset, .unset] [(.int (lcmpW ((1 : Int64) <<< (hh &&& 0x3f).toInt64) sq))])) _
    refine XS.ifNo X3.here hx rfl (hb hby at_38) rfl ((if0 _ _).trans (flt (fun q => f3 ((lw_gt ((1 : Int64) <<< (hh &&& 0x3f).toInt64) sq).mp q))).2.2.1) ?_
    show Steps p.tables e below (T3.setTop (mkF m 41 #[.val (.int p1), .val (.int nn), .val (.int hh), .val (.long ((nn.toInt64) + (1 : Int64))), .second, .val (.long sq), .second, .unset, .unset] [])) _
    refine XS.iconst X3.here hx rfl (hb hby at_41) ?_
    show Steps p.tables e below (T3.setTop (mkF m 42 #[.val (.int p1), .val (.int nn), .val (.int hh), .val (.long ((nn.toInt64) + (1 : Int64))), .second, .val (.long sq), .second, .unset, .unset] [(.int (1 : Int32))])) _
    refine XS.goto X3.here hx rfl (pc0 := 42) (pc' := 46) rfl (hb hby at_42) (by decide) (by decide) ?_
    show Steps p.tables e below (T3.setTop (mkF m 46 #[.val (.int p1), .val (.int nn), .val (.int hh), .val (.long ((nn.toInt64) + (1 : Int64))), .second, .val (.long sq), .second, .unset, .unset] [(.int (1 : Int32))])) _
    refine XS.istore X3.here hx rfl (hb hby at_46) rfl (l' := #[.val (.int p1), .val (.int nn), .val (.int hh), .val (.long ((nn.toInt64) + (1 : Int64))), .second, .val (.long sq), .second, .val (.int (1 : Int32)), .unset]) rfl ?_
    show Steps p.tables e below (T3.setTop (mkF m 48 #[.val (.int p1), .val (.int nn), .val (.int hh), .val (.long ((nn.toInt64) + (1 : Int64))), .second, .val (.long sq), .second, .val (.int (1 : Int32)), .unset] [])) _
    refine XS.iloadN X3.here hx rfl (hb hby at_48) rfl ?_
    show Steps p.tables e below (T3.setTop (mkF m 49 #[.val (.int p1), .val (.int nn), .val (.int hh), .val (.long ((nn.toInt64) + (1 : Int64))), .second, .val (.long sq), .second, .val (.int (1 : Int32)), .unset] [(.int hh)])) _
    refine XS.bipush X3.here hx rfl (hb hby at_49) ?_
    exact k)
  by_cases cd51 : hh = (62 : Int32)
  ·
    have k10 : ∀ t, Steps p.tables e below (T3.setTop (mkF m 87 #[.val (.int p1), .val (.int nn), .val (.int hh), .val (.long ((nn.toInt64) + (1 : Int64))), .second, .val (.long sq), .second, .val (.int (1 : Int32)), .val (.int (1 : Int32))] [(.int (1 : Int32))])) t → Steps p.tables e below (s₁.setTop (entryFrame m #[(.int p1)] maxLocals)) t := fun t k => k8 t (by
      show Steps p.tables e below (T3.setTop (mkF m 51 #[.val (.int p1), .val (.int nn), .val (.int hh), .val (.long ((nn.toInt64) + (1 : Int64))), .second, .val (.long sq), .second, .val (.int (1 : Int32)), .unset] [(.int (62 : Int32)), (.int hh)])) _
      refine XS.icmpYes X3.here hx rfl (pc0 := 51) (pc' := 65) rfl (hb hby at_51) rfl (teq cd51).1 (by decide) (by decide) ?_
      show Steps p.tables e below (T3.setTop (mkF m 65 #[.val (.int p1), .val (.int nn), .val (.int hh), .val (.long ((nn.toInt64) + (1 : Int64))), .second, .val (.long sq), .second, .val (.int (1 : Int32)), .unset] [])) _
      refine XS.iconst X3.here hx rfl (hb hby at_65) ?_
      show Steps p.tables e below (T3.setTop (mkF m 66 #[.val (.int p1), .val (.int nn), .val (.int hh), .val (.long ((nn.toInt64) + (1 : Int64))), .second, .val (.long sq), .second, .val (.int (1 : Int32)), .unset] [(.int (1 : Int32))])) _
      refine XS.goto X3.here hx rfl (pc0 := 66) (pc' := 70) rfl (hb hby at_66) (by decide) (by decide) ?_
      show Steps p.tables e below (T3.setTop (mkF m 70 #[.val (.int p1), .val (.int nn), .val (.int hh), .val (.long ((nn.toInt64) + (1 : Int64))), .second, .val (.long sq), .second, .val (.int (1 : Int32)), .unset] [(.int (1 : Int32))])) _
      refine XS.istore X3.here hx rfl (hb hby at_70) rfl (l' := #[.val (.int p1), .val (.int nn), .val (.int hh), .val (.long ((nn.toInt64) + (1 : Int64))), .second, .val (.long sq), .second, .val (.int (1 : Int32)), .val (.int (1 : Int32))]) rfl ?_
      show Steps p.tables e below (T3.setTop (mkF m 72 #[.val (.int p1), .val (.int nn), .val (.int hh), .val (.long ((nn.toInt64) + (1 : Int64))), .second, .val (.long sq), .second, .val (.int (1 : Int32)), .val (.int (1 : Int32))] [])) _
      refine XS.iload X3.here hx rfl (hb hby at_72) rfl ?_
      show Steps p.tables e below (T3.setTop (mkF m 74 #[.val (.int p1), .val (.int nn), .val (.int hh), .val (.long ((nn.toInt64) + (1 : Int64))), .second, .val (.long sq), .second, .val (.int (1 : Int32)), .val (.int (1 : Int32))] [(.int (1 : Int32))])) _
      refine XS.ifNo X3.here hx rfl (hb hby at_74) rfl ((if0 _ _).trans (feq (by decide)).1) ?_
      show Steps p.tables e below (T3.setTop (mkF m 77 #[.val (.int p1), .val (.int nn), .val (.int hh), .val (.long ((nn.toInt64) + (1 : Int64))), .second, .val (.long sq), .second, .val (.int (1 : Int32)), .val (.int (1 : Int32))] [])) _
      refine XS.iload X3.here hx rfl (hb hby at_77) rfl ?_
      show Steps p.tables e below (T3.setTop (mkF m 79 #[.val (.int p1), .val (.int nn), .val (.int hh), .val (.long ((nn.toInt64) + (1 : Int64))), .second, .val (.long sq), .second, .val (.int (1 : Int32)), .val (.int (1 : Int32))] [(.int (1 : Int32))])) _
      refine XS.ifNo X3.here hx rfl (hb hby at_79) rfl ((if0 _ _).trans (feq (by decide)).1) ?_
      show Steps p.tables e below (T3.setTop (mkF m 82 #[.val (.int p1), .val (.int nn), .val (.int hh), .val (.long ((nn.toInt64) + (1 : Int64))), .second, .val (.long sq), .second, .val (.int (1 : Int32)), .val (.int (1 : Int32))] [])) _
      refine XS.iconst X3.here hx rfl (hb hby at_82) ?_
      show Steps p.tables e below (T3.setTop (mkF m 83 #[.val (.int p1), .val (.int nn), .val (.int hh), .val (.long ((nn.toInt64) + (1 : Int64))), .second, .val (.long sq), .second, .val (.int (1 : Int32)), .val (.int (1 : Int32))] [(.int (1 : Int32))])) _
      refine XS.goto X3.here hx rfl (pc0 := 83) (pc' := 87) rfl (hb hby at_83) (by decide) (by decide) ?_
      exact k)
    obtain ⟨fs, hr, hrun, hended, hW, hsame⟩ := X3.leave (v := some (.int (1 : Int32))) (fun h => by rw [Bd.returns] at h; cases h)
    refine ⟨_, _, k10 _ ?_, hrun, hended, _, _, rfl, ?_, ⟨_, rfl⟩, hW, hsame.mono (by decide) (by decide)⟩
    · show Steps p.tables e below (T3.setTop (mkF m 87 #[.val (.int p1), .val (.int nn), .val (.int hh), .val (.long ((nn.toInt64) + (1 : Int64))), .second, .val (.long sq), .second, .val (.int (1 : Int32)), .val (.int (1 : Int32))] [(.int (1 : Int32))])) _
      exact retN X3 hx (t := .boolean) Bd.returns (by simp) (hb hby at_87) hr
    ·
      show Qlaw _ p1 h0 n0 _ T3.heap _
      rw [qa]
      exact ⟨rfl, N3⟩
  ·
    have k12 : ∀ t, Steps p.tables e below (T3.setTop (mkF m 87 #[.val (.int p1), .val (.int nn), .val (.int hh), .val (.long ((nn.toInt64) + (1 : Int64))), .second, .val (.long sq), .second, .val (.int (1 : Int32)), .val (.int (1 : Int32))] [(.int (1 : Int32))])) t → Steps p.tables e below (s₁.setTop (entryFrame m #[(.int p1)] maxLocals)) t := fun t k => k8 t (by
      show Steps p.tables e below (T3.setTop (mkF m 51 #[.val (.int p1), .val (.int nn), .val (.int hh), .val (.long ((nn.toInt64) + (1 : Int64))), .second, .val (.long sq), .second, .val (.int (1 : Int32)), .unset] [(.int (62 : Int32)), (.int hh)])) _
      refine XS.icmpNo X3.here hx rfl (hb hby at_51) rfl (feq cd51).1 ?_
      show Steps p.tables e below (T3.setTop (mkF m 54 #[.val (.int p1), .val (.int nn), .val (.int hh), .val (.long ((nn.toInt64) + (1 : Int64))), .second, .val (.long sq), .second, .val (.int (1 : Int32)), .unset] [])) _
      refine XS.lload X3.here hx rfl (hb hby at_54) rfl ?_
      show Steps p.tables e below (T3.setTop (mkF m 56 #[.val (.int p1), .val (.int nn), .val (.int hh), .val (.long ((nn.toInt64) + (1 : Int64))), .second, .val (.long sq), .second, .val (.int (1 : Int32)), .unset] [(.long sq)])) _
      refine XS.lconst X3.here hx rfl (hb hby at_56) ?_
      show Steps p.tables e below (T3.setTop (mkF m 57 #[.val (.int p1), .val (.int nn), .val (.int hh), .val (.long ((nn.toInt64) + (1 : Int64))), .second, .val (.long sq), .second, .val (.int (1 : Int32)), .unset] [(.long (1 : Int64)), (.long sq)])) _
      refine XS.iloadN X3.here hx rfl (hb hby at_57) rfl ?_
      show Steps p.tables e below (T3.setTop (mkF m 58 #[.val (.int p1), .val (.int nn), .val (.int hh), .val (.long ((nn.toInt64) + (1 : Int64))), .second, .val (.long sq), .second, .val (.int (1 : Int32)), .unset] [(.int hh), (.long (1 : Int64)), (.long sq)])) _
      refine XS.iconst X3.here hx rfl (hb hby at_58) ?_
      show Steps p.tables e below (T3.setTop (mkF m 59 #[.val (.int p1), .val (.int nn), .val (.int hh), .val (.long ((nn.toInt64) + (1 : Int64))), .second, .val (.long sq), .second, .val (.int (1 : Int32)), .unset] [(.int (1 : Int32)), (.int hh), (.long (1 : Int64)), (.long sq)])) _
      refine XS.iadd X3.here hx rfl (hb hby at_59) rfl ?_
      show Steps p.tables e below (T3.setTop (mkF m 60 #[.val (.int p1), .val (.int nn), .val (.int hh), .val (.long ((nn.toInt64) + (1 : Int64))), .second, .val (.long sq), .second, .val (.int (1 : Int32)), .unset] [(.int (hh + (1 : Int32))), (.long (1 : Int64)), (.long sq)])) _
      refine XS.lshl X3.here hx rfl (hb hby at_60) rfl ?_
      show Steps p.tables e below (T3.setTop (mkF m 61 #[.val (.int p1), .val (.int nn), .val (.int hh), .val (.long ((nn.toInt64) + (1 : Int64))), .second, .val (.long sq), .second, .val (.int (1 : Int32)), .unset] [(.long ((1 : Int64) <<< ((hh + (1 : Int32)) &&& 0x3f).toInt64)), (.long sq)])) _
      refine XS.lcmp X3.here hx rfl (hb hby at_61) rfl ?_
      show Steps p.tables e below (T3.setTop (mkF m 62 #[.val (.int p1), .val (.int nn), .val (.int hh), .val (.long ((nn.toInt64) + (1 : Int64))), .second, .val (.long sq), .second, .val (.int (1 : Int32)), .unset] [(.int (lcmpW sq ((1 : Int64) <<< ((hh + (1 : Int32)) &&& 0x3f).toInt64)))])) _
      refine XS.ifNo X3.here hx rfl (hb hby at_62) rfl ((if0 _ _).trans (tlt ((lw_lt sq ((1 : Int64) <<< ((hh + (1 : Int32)) &&& 0x3f).toInt64)).mpr (f4 cd51))).2.1) ?_
      show Steps p.tables e below (T3.setTop (mkF m 65 #[.val (.int p1), .val (.int nn), .val (.int hh), .val (.long ((nn.toInt64) + (1 : Int64))), .second, .val (.long sq), .second, .val (.int (1 : Int32)), .unset] [])) _
      refine XS.iconst X3.here hx rfl (hb hby at_65) ?_
      show Steps p.tables e below (T3.setTop (mkF m 66 #[.val (.int p1), .val (.int nn), .val (.int hh), .val (.long ((nn.toInt64) + (1 : Int64))), .second, .val (.long sq), .second, .val (.int (1 : Int32)), .unset] [(.int (1 : Int32))])) _
      refine XS.goto X3.here hx rfl (pc0 := 66) (pc' := 70) rfl (hb hby at_66) (by decide) (by decide) ?_
      show Steps p.tables e below (T3.setTop (mkF m 70 #[.val (.int p1), .val (.int nn), .val (.int hh), .val (.long ((nn.toInt64) + (1 : Int64))), .second, .val (.long sq), .second, .val (.int (1 : Int32)), .unset] [(.int (1 : Int32))])) _
      refine XS.istore X3.here hx rfl (hb hby at_70) rfl (l' := #[.val (.int p1), .val (.int nn), .val (.int hh), .val (.long ((nn.toInt64) + (1 : Int64))), .second, .val (.long sq), .second, .val (.int (1 : Int32)), .val (.int (1 : Int32))]) rfl ?_
      show Steps p.tables e below (T3.setTop (mkF m 72 #[.val (.int p1), .val (.int nn), .val (.int hh), .val (.long ((nn.toInt64) + (1 : Int64))), .second, .val (.long sq), .second, .val (.int (1 : Int32)), .val (.int (1 : Int32))] [])) _
      refine XS.iload X3.here hx rfl (hb hby at_72) rfl ?_
      show Steps p.tables e below (T3.setTop (mkF m 74 #[.val (.int p1), .val (.int nn), .val (.int hh), .val (.long ((nn.toInt64) + (1 : Int64))), .second, .val (.long sq), .second, .val (.int (1 : Int32)), .val (.int (1 : Int32))] [(.int (1 : Int32))])) _
      refine XS.ifNo X3.here hx rfl (hb hby at_74) rfl ((if0 _ _).trans (feq (by decide)).1) ?_
      show Steps p.tables e below (T3.setTop (mkF m 77 #[.val (.int p1), .val (.int nn), .val (.int hh), .val (.long ((nn.toInt64) + (1 : Int64))), .second, .val (.long sq), .second, .val (.int (1 : Int32)), .val (.int (1 : Int32))] [])) _
      refine XS.iload X3.here hx rfl (hb hby at_77) rfl ?_
      show Steps p.tables e below (T3.setTop (mkF m 79 #[.val (.int p1), .val (.int nn), .val (.int hh), .val (.long ((nn.toInt64) + (1 : Int64))), .second, .val (.long sq), .second, .val (.int (1 : Int32)), .val (.int (1 : Int32))] [(.int (1 : Int32))])) _
      refine XS.ifNo X3.here hx rfl (hb hby at_79) rfl ((if0 _ _).trans (feq (by decide)).1) ?_
      show Steps p.tables e below (T3.setTop (mkF m 82 #[.val (.int p1), .val (.int nn), .val (.int hh), .val (.long ((nn.toInt64) + (1 : Int64))), .second, .val (.long sq), .second, .val (.int (1 : Int32)), .val (.int (1 : Int32))] [])) _
      refine XS.iconst X3.here hx rfl (hb hby at_82) ?_
      show Steps p.tables e below (T3.setTop (mkF m 83 #[.val (.int p1), .val (.int nn), .val (.int hh), .val (.long ((nn.toInt64) + (1 : Int64))), .second, .val (.long sq), .second, .val (.int (1 : Int32)), .val (.int (1 : Int32))] [(.int (1 : Int32))])) _
      refine XS.goto X3.here hx rfl (pc0 := 83) (pc' := 87) rfl (hb hby at_83) (by decide) (by decide) ?_
      exact k)
    obtain ⟨fs, hr, hrun, hended, hW, hsame⟩ := X3.leave (v := some (.int (1 : Int32))) (fun h => by rw [Bd.returns] at h; cases h)
    refine ⟨_, _, k12 _ ?_, hrun, hended, _, _, rfl, ?_, ⟨_, rfl⟩, hW, hsame.mono (by decide) (by decide)⟩
    · show Steps p.tables e below (T3.setTop (mkF m 87 #[.val (.int p1), .val (.int nn), .val (.int hh), .val (.long ((nn.toInt64) + (1 : Int64))), .second, .val (.long sq), .second, .val (.int (1 : Int32)), .val (.int (1 : Int32))] [(.int (1 : Int32))])) _
      exact retN X3 hx (t := .boolean) Bd.returns (by simp) (hb hby at_87) hr
    ·
      show Qlaw _ p1 h0 n0 _ T3.heap _
      rw [qa]
      exact ⟨rfl, N3⟩
set_option maxRecDepth 65536 in
set_option maxHeartbeats 40000000 in
theorem comes_1 {Post : Tables → Env → Array Value → State → Outcome → State → Prop} (hpost : ∀ tb e args s v u, (limb_1_1.after args s (.returned v) u = true ∧ limb_1_2.after args s (.returned v) u = true ∧ True) → FrameEnd s (.returned v) u (Jvm.fieldLocs frame_1_writes args s ++ Jvm.arrayLocs frame_1_arrays args s ++ Jvm.staticLocs frame_1_statics s) 0 0 → Post tb e args s (.returned v) u) :
    ArmFor flags0 classFile x code maxLocals ret World_1 tables_1 room_1 Calls_1 rest_1 Pre_1 Post := by
  intro l hfl _ _ p e ha hc hk s m args below hf hA hF happ hP
  obtain ⟨hcalls, hrest, hpre⟩ := hP
  obtain ⟨-, -, -, hnamed, -, -, -, hat⟩ := (Spec.applies_iff hf).mp happ
  obtain ⟨hg, hn⟩ := and_e (Cond.before_iff.mp (show (Jvm.Cond.and given_1 narrow_1).before args s = true from hpre))
  obtain ⟨g1, g2⟩ := and_e hg
  obtain ⟨w0, rfl⟩ : ∃ w0 : Value, args = #[w0] := by
    have hs : args.size = 1 := by simpa [Cond.value, given_1] using g1
    obtain ⟨L⟩ := args
    match L, hs with
    | [w0], _ => exact ⟨w0, rfl⟩
  have hw := fun d (hd : d ∈ tables_1) => atoms_spec (ws := Jvm.Cond.code x code maxLocals ret :: tables_1) hat d (List.mem_cons_of_mem _ hd)
  have hfit : Fit s := fun {y c} hc i hi => by
    obtain ⟨ha, rfl⟩ := Array.getElem?_eq_some_iff.mp hc
    have q := List.all_eq_true.mp ((Array.all_eq_true_iff_forall_mem.mp hF) _ (Array.getElem_mem ha)) i (List.mem_range.mpr hi)
    simpa [Array.getElem?_eq_getElem hi] using q
  obtain ⟨i0, ei0⟩ := is_v g2
  obtain rfl : w0 = (.int i0) := Option.some.inj ei0
  obtain ⟨n, o, h1, h2, h3, _, L, rfl, ⟨rfl, N⟩, hq⟩ := rm_law l s _ hw tables_1 i0  s.heap s.heap.size (Nat.le_refl _)  p e ha hc hk s m _ below hf ((Spec.applies_iff_loose hf).mp happ).1 ⟨rfl, State.Warmed39.refl s, rfl⟩ trivial
  refine ⟨n, _, h1, h2, h3, hpost _ _ _ _ _ _ ⟨Cond.after_iff.mpr rfl, Cond.after_iff.mpr (eq_i res_at (Term.int_eval (1)) rfl), trivial⟩ ⟨hq.1, hq.2.1, (hq.2.2.sift fun y hy => Or.inr (N y hy)).mono (by decide) (by decide)⟩⟩
theorem main_1_1 : Claimed_1_1 := comes_1 fun _ _ _ _ _ _ h hF => ⟨h.1, hF⟩
theorem main_1_2 : Claimed_1_2 := comes_1 fun _ _ _ _ _ _ h hF => ⟨h.2.1, hF⟩
end Jvm.Pilot.@@N@@
namespace Jvm.Pilot.@@N@@
open Jvm Jvm.ClassFile Sem Op Lib Jvm.Free Jvm.Stand Jvm.Pilot.@@N@@.Jvm.D
/-! MADE BY PROGRAM (witnessworld.py) out of the Statement's table words and the real class files: 15 classes; the members and pool entries that the words name. The judged class is class 1, her method 1. -/
namespace start1
open Jvm.ClassFile
def u (s : String) : CpInfo := .utf8 (stringToUtf16 s)
/-- a pool by its gaps: so many unusable entries, then the entry; so many at the end -/
def gap : Nat → List CpInfo → List CpInfo
  | 0, r => r
  | n + 1, r => .unusable :: gap n r
def poolList (es : List (Nat × CpInfo)) (last : Nat) : List CpInfo := es.foldr (fun e r => gap e.1 (e.2 :: r)) (gap last [])
def pool (es : List (Nat × CpInfo)) (last : Nat) : Array CpInfo := ⟨poolList es last⟩
def fileOf (pool : Array CpInfo) (this : Nat) (attrs : Array Attribute := #[]) (ms : Array MethodInfo := #[]) (fl : Nat := 33) (sup : Nat := 0) (ifs : Array Nat := #[]) (fds : Array FieldInfo := #[]) : ClassFile where
  minorVersion := 0
  majorVersion := 65
  constantPool := pool
  accessFlags := fl
  thisClass := this
  superClass := sup
  interfaces := ifs
  fields := fds
  methods := ms
  attributes := attrs
def plain (name : String) (sup : Option ClassId) : Class where
  name := name
  kind := .ordinary
  loader := none
  accessFlags := 33
  super := sup
  interfaces := #[]
  cf := none
  fields := #[]
  methods := #[]
  instanceTypes := #[]
  staticTypes := #[]
  resolved := #[]
  callSites := []
  init := .initialized
  statics := none
  mirror := none

def pool0 : Array CpInfo := pool [(5, u "<init>"), (0, u "()V"), (1, .class_ 10), (1, u "java/lang/Object")] 113

def k0m0 : Method := { name := "<init>", desc := "()V", sig := { parameters := [], returnType := none }, accessFlags := 1, code := none }
/-- java/lang/Object -/
def k0 : Class := { plain "java/lang/Object" none with
  accessFlags := 33
  interfaces := #[]
  cf := some (fileOf pool0 8 #[] #[{ accessFlags := 1, nameIndex := 5, descriptorIndex := 6, attributes := #[] }] 33 0 #[] #[])
  fields := #[]
  methods := #[k0m0]
  instanceTypes := #[]
  staticTypes := #[]
  resolved := Array.replicate 124 none
  statics := none }

def pool1 : Array CpInfo := pool [(2, .class_ 4), (1, u "java/lang/Object"), (0, u "<init>"), (0, u "()V"), (0, .integer 2147483647), (0, .methodref 9 10), (0, .class_ 11), (0, .nameAndType 12 13), (0, u "com/example/rosewood/rosewood/tree/Node"), (0, u "heightBound"), (0, u "(I)I"), (0, .class_ 15), (0, u "com/example/rosewood/rosewood/tree/NodeHeightBoundPinLaw"), (2, u "law"), (0, u "(I)Z")] 3

def k1m0 : Method := { name := "<init>", desc := "()V", sig := { parameters := [], returnType := none }, accessFlags := 1, code := none }
def k1c1 : Code := { maxStack := 6, maxLocals := 9, code := code, exceptionTable := #[], attributes := #[] }
def k1m1 : Method := { name := "law", desc := "(I)Z", sig := { parameters := [.int], returnType := some .boolean }, accessFlags := 9, code := some k1c1 }
/-- com/example/rosewood/rosewood/tree/NodeHeightBoundPinLaw -/
def k1 : Class := { plain "com/example/rosewood/rosewood/tree/NodeHeightBoundPinLaw" (some 0) with
  accessFlags := 49
  interfaces := #[]
  cf := some (fileOf pool1 14 #[] #[{ accessFlags := 1, nameIndex := 5, descriptorIndex := 6, attributes := #[] }, { accessFlags := 9, nameIndex := 18, descriptorIndex := 19, attributes := #[] }] 49 2 #[] #[])
  fields := #[]
  methods := #[k1m0, k1m1]
  instanceTypes := #[]
  staticTypes := #[]
  resolved := Array.replicate 23 none
  statics := none }

def pool2 : Array CpInfo := pool [(2, .class_ 4), (1, u "java/lang/Object"), (3, .class_ 10), (1, u "com/example/rosewood/rosewood/tree/Node"), (0, u "key"), (0, u "Ljava/lang/Object;"), (2, u "value"), (6, u "countAndColour"), (0, u "I"), (2, u "left"), (0, u "Lcom/example/rosewood/rosewood/tree/Node;"), (2, u "right"), (12, .class_ 44), (0, u "java/lang/Long"), (0, .methodref 43 46), (0, .nameAndType 47 48), (0, u "numberOfLeadingZeros"), (0, u "(J)I"), (31, u "heightBound"), (0, u "(I)I")] 15

def k2c0 : Code := { maxStack := 6, maxLocals := 3, code := prog_19_method_15_code, exceptionTable := #[], attributes := #[] }
def k2m0 : Method := { name := "heightBound", desc := "(I)I", sig := { parameters := [.int], returnType := some .int }, accessFlags := 8, code := some k2c0 }
/-- com/example/rosewood/rosewood/tree/Node -/
def k2 : Class := { plain "com/example/rosewood/rosewood/tree/Node" (some 0) with
  accessFlags := 33
  interfaces := #[]
  cf := some (fileOf pool2 8 #[] #[{ accessFlags := 8, nameIndex := 80, descriptorIndex := 81, attributes := #[] }] 33 2 #[] #[{ accessFlags := 0, nameIndex := 11, descriptorIndex := 12, attributes := #[] }, { accessFlags := 0, nameIndex := 15, descriptorIndex := 12, attributes := #[] }, { accessFlags := 2, nameIndex := 22, descriptorIndex := 23, attributes := #[] }, { accessFlags := 0, nameIndex := 26, descriptorIndex := 27, attributes := #[] }, { accessFlags := 0, nameIndex := 30, descriptorIndex := 27, attributes := #[] }])
  fields := #[{ name := "key", type := (.object "java/lang/Object"), accessFlags := 0, slot := 0, constantValue := 0 }, { name := "value", type := (.object "java/lang/Object"), accessFlags := 0, slot := 1, constantValue := 0 }, { name := "countAndColour", type := .int, accessFlags := 2, slot := 2, constantValue := 0 }, { name := "left", type := (.object "com/example/rosewood/rosewood/tree/Node"), accessFlags := 0, slot := 3, constantValue := 0 }, { name := "right", type := (.object "com/example/rosewood/rosewood/tree/Node"), accessFlags := 0, slot := 4, constantValue := 0 }]
  methods := #[k2m0]
  instanceTypes := #[(.object "java/lang/Object"), (.object "java/lang/Object"), .int, (.object "com/example/rosewood/rosewood/tree/Node"), (.object "com/example/rosewood/rosewood/tree/Node")]
  staticTypes := #[]
  resolved := Array.replicate 97 none
  statics := none }

def pool3 : Array CpInfo := pool [(1, .class_ 2), (0, u "java/io/Serializable"), (0, .class_ 4), (0, u "java/lang/Object")] 2

/-- java/io/Serializable -/
def k3 : Class := { plain "java/io/Serializable" (some 0) with
  accessFlags := 1537
  interfaces := #[]
  cf := some (fileOf pool3 1 #[] #[] 1537 3 #[] #[])
  fields := #[]
  methods := #[]
  instanceTypes := #[]
  staticTypes := #[]
  resolved := Array.replicate 7 none
  statics := none }

def pool4 : Array CpInfo := pool [(2, .class_ 4), (1, u "java/lang/Object"), (0, u "<init>"), (0, u "()V"), (1, .class_ 10), (1, u "java/lang/Number"), (2, .class_ 14), (0, u "java/io/Serializable"), (0, u "serialVersionUID"), (0, u "J")] 20

def k4m0 : Method := { name := "<init>", desc := "()V", sig := { parameters := [], returnType := none }, accessFlags := 1, code := none }
/-- java/lang/Number -/
def k4 : Class := { plain "java/lang/Number" (some 0) with
  accessFlags := 1057
  interfaces := #[3]
  cf := some (fileOf pool4 8 #[] #[{ accessFlags := 1, nameIndex := 5, descriptorIndex := 6, attributes := #[] }] 1057 2 #[13] #[{ accessFlags := 26, nameIndex := 15, descriptorIndex := 16, attributes := #[] }])
  fields := #[{ name := "serialVersionUID", type := .long, accessFlags := 26, slot := 0, constantValue := 0 }]
  methods := #[k4m0]
  instanceTypes := #[]
  staticTypes := #[.long]
  resolved := Array.replicate 37 none
  statics := none }

def pool5 : Array CpInfo := pool [(1, .class_ 2), (0, u "java/lang/Comparable"), (0, .class_ 4), (0, u "java/lang/Object")] 7

/-- java/lang/Comparable -/
def k5 : Class := { plain "java/lang/Comparable" (some 0) with
  accessFlags := 1537
  interfaces := #[]
  cf := some (fileOf pool5 1 #[] #[] 1537 3 #[] #[])
  fields := #[]
  methods := #[]
  instanceTypes := #[]
  staticTypes := #[]
  resolved := Array.replicate 12 none
  statics := none }

def pool6 : Array CpInfo := pool [(1, .class_ 2), (0, u "java/lang/constant/Constable"), (0, .class_ 4), (0, u "java/lang/Object")] 6

/-- java/lang/constant/Constable -/
def k6 : Class := { plain "java/lang/constant/Constable" (some 0) with
  accessFlags := 1537
  interfaces := #[]
  cf := some (fileOf pool6 1 #[] #[] 1537 3 #[] #[])
  fields := #[]
  methods := #[]
  instanceTypes := #[]
  staticTypes := #[]
  resolved := Array.replicate 11 none
  statics := none }

def pool7 : Array CpInfo := pool [(1, .class_ 2), (0, u "java/lang/constant/ConstantDesc"), (0, .class_ 4), (0, u "java/lang/Object")] 32

/-- java/lang/constant/ConstantDesc -/
def k7 : Class := { plain "java/lang/constant/ConstantDesc" (some 0) with
  accessFlags := 1537
  interfaces := #[]
  cf := some (fileOf pool7 1 #[] #[] 1537 3 #[] #[])
  fields := #[]
  methods := #[]
  instanceTypes := #[]
  staticTypes := #[]
  resolved := Array.replicate 37 none
  statics := none }

def pool8 : Array CpInfo := pool [(1, .class_ 2), (0, u "java/lang/Long"), (15, .class_ 20), (1, u "java/lang/Integer"), (79, u "numberOfLeadingZeros"), (0, u "(J)I"), (133, .class_ 237), (1, u "java/lang/Long$LongCache"), (33, .class_ 272), (0, u "java/lang/Number"), (2, u "value"), (0, u "J"), (31, .methodref 18 309), (0, .nameAndType 100 310), (0, u "(I)I"), (50, u "TYPE"), (0, u "Ljava/lang/Class;"), (0, .class_ 364), (0, u "java/lang/Comparable"), (0, .class_ 366), (0, u "java/lang/constant/Constable"), (0, .class_ 368), (0, u "java/lang/constant/ConstantDesc"), (0, u "MIN_VALUE"), (1, u "MAX_VALUE"), (4, u "SIZE"), (0, u "I"), (1, u "BYTES"), (1, u "serialVersionUID")] 142

def k8c0 : Code := { maxStack := 3, maxLocals := 3, code := jdk_35_method_48_code, exceptionTable := #[], attributes := #[] }
def k8m0 : Method := { name := "numberOfLeadingZeros", desc := "(J)I", sig := { parameters := [.long], returnType := some .int }, accessFlags := 9, code := some k8c0 }
/-- java/lang/Long -/
def k8 : Class := { plain "java/lang/Long" (some 4) with
  accessFlags := 49
  interfaces := #[5, 6, 7]
  cf := some (fileOf pool8 1 #[.nestMembers #[235]] #[{ accessFlags := 9, nameIndex := 100, descriptorIndex := 101, attributes := #[] }] 49 271 #[363, 365, 367] #[{ accessFlags := 25, nameIndex := 369, descriptorIndex := 276, attributes := #[] }, { accessFlags := 25, nameIndex := 371, descriptorIndex := 276, attributes := #[] }, { accessFlags := 25, nameIndex := 361, descriptorIndex := 362, attributes := #[] }, { accessFlags := 18, nameIndex := 275, descriptorIndex := 276, attributes := #[] }, { accessFlags := 25, nameIndex := 376, descriptorIndex := 377, attributes := #[] }, { accessFlags := 25, nameIndex := 379, descriptorIndex := 377, attributes := #[] }, { accessFlags := 26, nameIndex := 381, descriptorIndex := 276, attributes := #[] }])
  fields := #[{ name := "MIN_VALUE", type := .long, accessFlags := 25, slot := 0, constantValue := 0 }, { name := "MAX_VALUE", type := .long, accessFlags := 25, slot := 1, constantValue := 0 }, { name := "TYPE", type := (.object "java/lang/Class"), accessFlags := 25, slot := 2, constantValue := 0 }, { name := "value", type := .long, accessFlags := 18, slot := 0, constantValue := 0 }, { name := "SIZE", type := .int, accessFlags := 25, slot := 3, constantValue := 0 }, { name := "BYTES", type := .int, accessFlags := 25, slot := 4, constantValue := 0 }, { name := "serialVersionUID", type := .long, accessFlags := 26, slot := 5, constantValue := 0 }]
  methods := #[k8m0]
  instanceTypes := #[.long]
  staticTypes := #[.long, .long, (.object "java/lang/Class"), .int, .int, .long]
  resolved := Array.replicate 524 none
  statics := none }

def pool9 : Array CpInfo := pool [(1, .class_ 2), (0, u "java/lang/Integer"), (16, u "digits"), (0, u "[C"), (32, u "numberOfLeadingZeros"), (0, u "(I)I"), (30, u "DigitOnes"), (0, u "[B"), (2, u "DigitTens"), (99, .class_ 190), (0, u "java/lang/Integer$IntegerCache"), (3, u "I"), (8, .class_ 204), (0, u "java/lang/Number"), (2, u "value"), (56, .integer 65536), (37, u "TYPE"), (0, u "Ljava/lang/Class;"), (0, .class_ 305), (0, u "java/lang/Comparable"), (0, .class_ 307), (0, u "java/lang/constant/Constable"), (0, .class_ 309), (0, u "java/lang/constant/ConstantDesc"), (0, u "MIN_VALUE"), (1, u "MAX_VALUE"), (3, u "SIZE"), (1, u "BYTES"), (1, u "serialVersionUID"), (0, u "J")] 131

def k9c0 : Code := { maxStack := 3, maxLocals := 2, code := jdk_33_method_47_code, exceptionTable := #[], attributes := #[] }
def k9m0 : Method := { name := "numberOfLeadingZeros", desc := "(I)I", sig := { parameters := [.int], returnType := some .int }, accessFlags := 9, code := some k9c0 }
/-- java/lang/Integer -/
def k9 : Class := { plain "java/lang/Integer" (some 4) with
  accessFlags := 49
  interfaces := #[5, 6, 7]
  cf := some (fileOf pool9 1 #[.nestMembers #[189]] #[{ accessFlags := 9, nameIndex := 53, descriptorIndex := 54, attributes := #[] }] 49 203 #[304, 306, 308] #[{ accessFlags := 25, nameIndex := 310, descriptorIndex := 194, attributes := #[] }, { accessFlags := 25, nameIndex := 312, descriptorIndex := 194, attributes := #[] }, { accessFlags := 25, nameIndex := 302, descriptorIndex := 303, attributes := #[] }, { accessFlags := 24, nameIndex := 19, descriptorIndex := 20, attributes := #[] }, { accessFlags := 24, nameIndex := 89, descriptorIndex := 86, attributes := #[] }, { accessFlags := 24, nameIndex := 85, descriptorIndex := 86, attributes := #[] }, { accessFlags := 18, nameIndex := 207, descriptorIndex := 194, attributes := #[] }, { accessFlags := 25, nameIndex := 316, descriptorIndex := 194, attributes := #[] }, { accessFlags := 25, nameIndex := 318, descriptorIndex := 194, attributes := #[] }, { accessFlags := 26, nameIndex := 320, descriptorIndex := 321, attributes := #[] }])
  fields := #[{ name := "MIN_VALUE", type := .int, accessFlags := 25, slot := 0, constantValue := 0 }, { name := "MAX_VALUE", type := .int, accessFlags := 25, slot := 1, constantValue := 0 }, { name := "TYPE", type := (.object "java/lang/Class"), accessFlags := 25, slot := 2, constantValue := 0 }, { name := "digits", type := (.array .char), accessFlags := 24, slot := 3, constantValue := 0 }, { name := "DigitTens", type := (.array .byte), accessFlags := 24, slot := 4, constantValue := 0 }, { name := "DigitOnes", type := (.array .byte), accessFlags := 24, slot := 5, constantValue := 0 }, { name := "value", type := .int, accessFlags := 18, slot := 0, constantValue := 0 }, { name := "SIZE", type := .int, accessFlags := 25, slot := 6, constantValue := 0 }, { name := "BYTES", type := .int, accessFlags := 25, slot := 7, constantValue := 0 }, { name := "serialVersionUID", type := .long, accessFlags := 26, slot := 8, constantValue := 0 }]
  methods := #[k9m0]
  instanceTypes := #[.int]
  staticTypes := #[.int, .int, (.object "java/lang/Class"), (.array .char), (.array .byte), (.array .byte), .int, .int, .long]
  resolved := Array.replicate 453 none
  statics := none }

def pool10 : Array CpInfo := pool [(1, u "java/lang/Cloneable"), (0, .class_ 1), (0, u "java/lang/Object"), (0, .class_ 3)] 3

/-- java/lang/Cloneable -/
def k10 : Class := { plain "java/lang/Cloneable" (some 0) with
  accessFlags := 1537
  interfaces := #[]
  cf := some (fileOf pool10 2 #[] #[] 1537 4 #[] #[])
  fields := #[]
  methods := #[]
  instanceTypes := #[]
  staticTypes := #[]
  resolved := Array.replicate 8 none
  statics := none }

/-- the primitive byte -/
def k11 : Class := { plain "byte" none with kind := .primitive 'B', accessFlags := 0x411 }
/-- [B -/
def k12 : Class := { plain "[B" (some 0) with kind := .array 11 .byte, interfaces := #[10, 3], accessFlags := 1041 }

/-- the primitive int -/
def k13 : Class := { plain "int" none with kind := .primitive 'I', accessFlags := 0x411 }
/-- [I -/
def k14 : Class := { plain "[I" (some 0) with kind := .array 13 .int, interfaces := #[10, 3], accessFlags := 1041 }

def heap : Heap := #[]
def classes : Array Class := #[k0, k1, k2, k3, k4, k5, k6, k7, k8, k9, k10, k11, k12, k13, k14]
def interned : List (Array UInt16 × Addr) := []
def slotsUsed : Nat := 0
def theMethod : MethodId := ⟨1, 1⟩
def args0 : Array Value := #[.int 1000]
def aboutOver (below : List Frame) : State where
  vm := { classes := classes, interned := interned.toArray }
  heap := heap
  slotsUsed := slotsUsed
  threads := #[{ frames := .invoking theMethod args0 :: below }]
def below0 : List Frame := [.native { method := ⟨0, 0⟩, args := #[] }]
def about1 : State := aboutOver below0
def p0 : Program := .bare "" "" ""
def e0 : Env := launch0.env 0 0 0
theorem w_frames : about1.frames = Frame.invoking theMethod args0 :: below0 := rfl
set_option maxRecDepth 65536 in
theorem w_args : argsFit about1.vm theMethod args0 = true := by decide +kernel
set_option maxRecDepth 65536 in
theorem w_heap : heapFits about1 = true := by decide +kernel
set_option maxRecDepth 65536 in
theorem w_runnable : about1.curStatus? = some .runnable := by decide +kernel
set_option maxRecDepth 65536 in
theorem w_alone : about1.alone = true := by decide +kernel
set_option maxRecDepth 65536 in
theorem w_named : about1.methodNamed? x = some theMethod := by decide +kernel
set_option maxRecDepth 65536 in
theorem w_hears : about1.hears theMethod below0 = true := by decide +kernel
set_option maxRecDepth 65536 in
theorem w_ripe : about1.ripe theMethod args0 below0 = true := by decide +kernel
theorem w_running : about1.status = .running := rfl
set_option maxRecDepth 65536 in
theorem w_room : about1.hasRoom e0.platform room_1 = true :=
  launch0.hasRoom_least _ room_1 (by decide +kernel) (by decide +kernel) (by decide +kernel) (by decide +kernel) (by decide +kernel) (by decide +kernel)
theorem allAtoms_all (ts : List Jvm.Cond) (a : Array Jvm.Value) (st : Jvm.State) : (allAtoms ts).before a st = ts.all (fun c => c.before a st) := by
  induction ts with
  | nil => rfl
  | cons c t ih =>
    show (Jvm.Cond.and c (allAtoms t)).before a st = _
    rw [Jvm.Cond.before_and, ih, List.all_cons]
def words1 : List Jvm.Cond := Jvm.Cond.code x code maxLocals ret :: tables_1
/-- a 'code' word, met by the world's own term for the bytes: nothing is compared byte by byte -/
theorem code_word {y : MethodName} {bytes : ByteArray} {mx : Nat} {rt : Option FieldType} {a : Array Value} {s : State} {m : MethodId} {meth : Method} {c : Code} (h1 : s.methodNamed? y = some m) (h2 : s.vm.method? m = some meth) (h3 : meth.code = some c) (h4 : c.code = bytes)
    (h5 : (c.maxLocals == mx && c.exceptionTable.isEmpty && decide (c.maxStack ≤ mostOperands) && decide (meth.sig.returnType = rt) && !meth.locks && decide (parseMethodDescriptor y.desc = some meth.sig)) = true) : (Jvm.Cond.code y bytes mx rt).before a s = true := by
  simp only [Bool.and_eq_true, beq_iff_eq, Bool.not_eq_true', decide_eq_true_eq] at h5
  obtain ⟨⟨⟨⟨⟨g1, g2⟩, g3⟩, g4⟩, g5⟩, g6⟩ := h5
  simp [Cond.before, Cond.holds, Cond.value, h1, h2, h3, h4, g1, g2, g3, g4, g5, g6]
def isCode : Jvm.Cond → Bool
  | .code _ _ _ _ => true
  | _ => false
theorem all_split {L : List Jvm.Cond} {P : Jvm.Cond → Bool} (h1 : L.all (fun c => isCode c || P c) = true) (h2 : ∀ c ∈ L.filter isCode, P c = true) : L.all P = true := by
  refine List.all_eq_true.mpr fun c hc => ?_
  have h := List.all_eq_true.mp h1 c hc
  rcases Bool.eq_false_or_eq_true (isCode c) with hi | hi
  · exact h2 c (List.mem_filter.mpr ⟨hc, hi⟩)
  · simpa [hi] using h
set_option maxRecDepth 65536 in
theorem w_c0 : (Jvm.Cond.code x code maxLocals ret).before args0 about1 = true := code_word (m := ⟨1, 1⟩) (meth := k1m1) (c := k1c1) (by decide +kernel) rfl rfl rfl (by decide +kernel)
set_option maxRecDepth 65536 in
theorem w_c1 : (Jvm.Cond.code ({ cls := "com/example/rosewood/rosewood/tree/Node", name := "heightBound", desc := "(I)I" } : Jvm.MethodName) prog_19_method_15_code (3 : Nat) (Option.some Jvm.ClassFile.FieldType.int)).before args0 about1 = true := code_word (m := ⟨2, 0⟩) (meth := k2m0) (c := k2c0) (by decide +kernel) rfl rfl rfl (by decide +kernel)
set_option maxRecDepth 65536 in
theorem w_c2 : (Jvm.Cond.code ({ cls := "java/lang/Long", name := "numberOfLeadingZeros", desc := "(J)I" } : Jvm.MethodName) jdk_35_method_48_code (3 : Nat) (Option.some Jvm.ClassFile.FieldType.int)).before args0 about1 = true := code_word (m := ⟨8, 0⟩) (meth := k8m0) (c := k8c0) (by decide +kernel) rfl rfl rfl (by decide +kernel)
set_option maxRecDepth 65536 in
theorem w_c3 : (Jvm.Cond.code ({ cls := "java/lang/Integer", name := "numberOfLeadingZeros", desc := "(I)I" } : Jvm.MethodName) jdk_33_method_47_code (2 : Nat) (Option.some Jvm.ClassFile.FieldType.int)).before args0 about1 = true := code_word (m := ⟨9, 0⟩) (meth := k9m0) (c := k9c0) (by decide +kernel) rfl rfl rfl (by decide +kernel)
def codes1 : List Jvm.Cond := [Jvm.Cond.code x code maxLocals ret, Jvm.Cond.code ({ cls := "com/example/rosewood/rosewood/tree/Node", name := "heightBound", desc := "(I)I" } : Jvm.MethodName) prog_19_method_15_code (3 : Nat) (Option.some Jvm.ClassFile.FieldType.int), Jvm.Cond.code ({ cls := "java/lang/Long", name := "numberOfLeadingZeros", desc := "(J)I" } : Jvm.MethodName) jdk_35_method_48_code (3 : Nat) (Option.some Jvm.ClassFile.FieldType.int), Jvm.Cond.code ({ cls := "java/lang/Integer", name := "numberOfLeadingZeros", desc := "(I)I" } : Jvm.MethodName) jdk_33_method_47_code (2 : Nat) (Option.some Jvm.ClassFile.FieldType.int)]
set_option maxRecDepth 65536 in
theorem codes_eq : words1.filter isCode = codes1 := rfl
theorem w_codes : ∀ c ∈ words1.filter isCode, c.before args0 about1 = true := by
  rw [codes_eq]
  intro c hc
  simp only [codes1, List.mem_cons, List.not_mem_nil, or_false] at hc
  rcases hc with rfl | rfl | rfl | rfl
  · exact w_c0
  · exact w_c1
  · exact w_c2
  · exact w_c3
set_option maxRecDepth 65536 in
theorem w_t1 : words1.all (fun c => isCode c || c.before args0 about1) = true := by decide +kernel
theorem w_tables : (allAtoms (Jvm.Cond.code x code maxLocals ret :: tables_1)).before args0 about1 = true := by
  rw [allAtoms_all]
  show words1.all (fun c => c.before args0 about1) = true
  refine all_split ?_ w_codes
  rw [w_t1]
set_option maxRecDepth 65536 in
theorem w_case : (Jvm.Cond.and given_1 narrow_1).before args0 about1 = true := by decide +kernel
theorem w_applies : (headSpec (Jvm.Cond.code x code maxLocals ret :: tables_1) room_1).applies x e0.platform about1 = true :=
  (Spec.applies_iff w_frames).mpr ⟨w_running, w_runnable, w_alone, w_named, w_hears, w_ripe, w_room, w_tables⟩
theorem atStart : AtStart classFile x code maxLocals ret World_1 tables_1 room_1 Calls_1 rest_1 Pre_1 launch0 p0 e0 about1 theMethod args0 below0 :=
  ⟨lists_1, trivial, launch0.admits_env _ _ _, launch0.least_env, fairChoices_fair.cas, fairChoices_fair.clock, w_frames, w_args, w_heap, w_applies, trivial, trivial, w_case⟩
end start1
theorem witness_1 : WitnessClaimed_1 := ⟨start1.p0, start1.e0, start1.about1, start1.theMethod, start1.args0, start1.below0, start1.atStart⟩
end Jvm.Pilot.@@N@@
