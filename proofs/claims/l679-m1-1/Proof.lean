import JvmDerived
import JvmDerived.Pilot.@@N@@Statement
import JvmDerived.Pilot.@@N@@Code
set_option linter.unusedVariables false
set_option linter.unusedSimpArgs false
namespace Jvm.Pilot.@@N@@
open Jvm Jvm.ClassFile Sem Op Lib Jvm.Free Jvm.Stand Jvm.LawKit Jvm.RoadKit Bundle Jvm.Pilot.@@N@@.Jvm.D
theorem own_sel {s : State} {a : Array Value} {y : MethodName} {n : Nat} (hi : (Jvm.Cond.instanceMethod y).before a s = true) (hp : (Jvm.Cond.privateMethod y).before a s = true) (hn : (Jvm.Cond.instantiable y.cls n).before a s = true) (hx : y.cls ≠ "java/lang/invoke/MethodHandle" ∧ y.cls ≠ "java/lang/invoke/VarHandle") : (Jvm.Cond.selects y.cls y y).before a s = true := by
  obtain ⟨m, meth, h1, h2, h3, h4⟩ := Cond.instanceMethod_spec hi
  obtain ⟨c, k, c1, c2, c3, c4, -⟩ := Cond.instantiable_spec hn
  have hf := State.methodFound?_of_named h1 hx
  have hc := findClass_of_methodNamed h1
  obtain rfl : c = m.cls := Option.some.inj (c1.symm.trans hc)
  have hs : selectMethod {} s.vm m.cls m = .method m := selectMethod_private h2 (Cond.privateMethod_at hp m meth h1 h2)
  have hk : k.isInterface = false := by simp only [Bool.or_eq_false_iff] at c4; exact c4.1
  simp [Cond.before, Cond.holds, Cond.value, hc, hf, h1, hs, c2, hk]
abbrev own_Sip (Z : State) (h : Heap) (a : Addr) (ka kb : Int64) (sv : Int64 × Int64 × Int64 × Int64) : Prop := Exa Z h a "com/example/stint/stint/core/SipHash" ∧ Fld Z h a "com/example/stint/stint/core/SipHash" "k0" "J" (.long ka) ∧ Fld Z h a "com/example/stint/stint/core/SipHash" "k1" "J" (.long kb) ∧ Fld Z h a "com/example/stint/stint/core/SipHash" "v0" "J" (.long sv.1) ∧ Fld Z h a "com/example/stint/stint/core/SipHash" "v1" "J" (.long sv.2.1) ∧ Fld Z h a "com/example/stint/stint/core/SipHash" "v2" "J" (.long sv.2.2.1) ∧ Fld Z h a "com/example/stint/stint/core/SipHash" "v3" "J" (.long sv.2.2.2)
def own_rotl (q1 : Int64) (p2 : Int32) : Int64 := ((q1 <<< (p2 &&& 0x3f).toInt64) ||| ((q1.toUInt64 >>> ((-p2) &&& 0x3f).toInt64.toUInt64).toInt64))
theorem d6_0 : decode jdk_35_method_51_code 0 = .ok (.lload_n 0, 1) := by decide +kernel
theorem d6_1 : decode jdk_35_method_51_code 1 = .ok (.iload_n 2, 1) := by decide +kernel
theorem d6_2 : decode jdk_35_method_51_code 2 = .ok (.lshl, 1) := by decide +kernel
theorem d6_3 : decode jdk_35_method_51_code 3 = .ok (.lload_n 0, 1) := by decide +kernel
theorem d6_4 : decode jdk_35_method_51_code 4 = .ok (.iload_n 2, 1) := by decide +kernel
theorem d6_5 : decode jdk_35_method_51_code 5 = .ok (.ineg, 1) := by decide +kernel
theorem d6_6 : decode jdk_35_method_51_code 6 = .ok (.lushr, 1) := by decide +kernel
theorem d6_7 : decode jdk_35_method_51_code 7 = .ok (.lor, 1) := by decide +kernel
theorem d6_8 : decode jdk_35_method_51_code 8 = .ok (.lreturn, 1) := by decide +kernel
theorem pn_6 : plainName "java/lang/Long" = true := by first | (simp [plainName, overriddenIn]; done) | decide +kernel
theorem ef_rotl (m : MethodId) (x0 : Int64) (x1 : Int32) : entryFrame m #[(.long x0), (.int x1)] 3 = mkF m 0 #[.val (.long x0), .second, .val (.int x1)] [] := by first | (simp [entryFrame, mkF, argsToLocals, Value.category]; done) | rfl
def Qrotl (Z : State) (q1 : Int64) (p2 : Int32) (h0 : Heap) (n0 : Nat) (v : Option Value) (h : Heap) (L : List Loc) : Prop := v = some (.long (own_rotl q1 p2)) ∧ Fr n0 L ∧ h = h0
set_option maxRecDepth 65536 in
set_option maxHeartbeats 40000000 in
theorem rm_rotl (l : Launch) (Z : State) (a0 : Array Value) (hw : ∀ d ∈ tables_1, d.before a0 Z = true) (ws : List Jvm.Cond) (q1 : Int64) (p2 : Int32) (h0 : Heap) (n0 : Nat) (Z0 : n0 ≤ h0.size) :
    MetFree l (⟨"java/lang/Long", "rotateLeft", "(JI)J"⟩ : MethodName) (head1 (Jvm.Cond.code (⟨"java/lang/Long", "rotateLeft", "(JI)J"⟩ : MethodName) jdk_35_method_51_code 3 (some .long) :: ws) ({ frames := 0, cells := 0, slots := 0, locals := 0 } : Room)) (fun a U => a = #[(.long q1), (.int p2)] ∧ Z.Warmed39 U.vm ∧ U.heap = h0) (fun _ _ _ _ _ => True) (fun _ U o U' => ∃ v L, o = .returned v ∧ Qrotl Z q1 p2 h0 n0 v U'.heap L ∧ FrameEnd U o U' L ({ frames := 0, cells := 0, slots := 0, locals := 0 } : Room).cells ({ frames := 0, cells := 0, slots := 0, locals := 0 } : Room).slots) := by
  refine MetFree.of_bodySF (plainFor_of_name pn_6) hisR ?_
  intro p e s m args below meth c s₁ Bd hml0 hP hK
  obtain ⟨rfl, hZ, hh⟩ := hP
  have hx := Bd.exec
  have hby := Bd.bytes
  have hml : c.maxLocals = 3 := hml0
  have hown : s.vm.findClass "java/lang/Long" = some m.cls := findClass_of_methodNamed Bd.named
  have hnm := (name_of_methodNamed Bd.named Bd.method).1
  have X0 : Stand p l e ({ frames := 0, cells := 0, slots := 0, locals := 0 } : Room) s m #[(.long q1), (.int p2)] below meth c s₁ [] 0 0 := Stand.of_body Bd
  have e0 : s₁.heap = h0 := by rw [← hh, Bd.state]; rfl
  have N0 := Fr.nil n0
  have k0 : ∀ t, Steps p.tables e below (s₁.setTop (mkF m 0 #[.val (.long q1), .second, .val (.int p2)] [])) t → Steps p.tables e below (s₁.setTop (entryFrame m #[(.long q1), (.int p2)] 3)) t := fun t k => castTop (ef_rotl m q1 p2) k
  have hv : own_rotl q1 p2 = ((q1 <<< (p2 &&& 0x3f).toInt64) ||| ((q1.toUInt64 >>> ((-p2) &&& 0x3f).toInt64.toUInt64).toInt64)) := rfl
  have k2 : ∀ t, Steps p.tables e below (s₁.setTop (mkF m 8 #[.val (.long q1), .second, .val (.int p2)] [(.long ((q1 <<< (p2 &&& 0x3f).toInt64) ||| ((q1.toUInt64 >>> ((-p2) &&& 0x3f).toInt64.toUInt64).toInt64)))])) t → Steps p.tables e below (s₁.setTop (entryFrame m #[(.long q1), (.int p2)] 3)) t := fun t k => k0 t (by
    show Steps p.tables e below (s₁.setTop (mkF m 0 #[.val (.long q1), .second, .val (.int p2)] [])) _
    refine XS.lloadN X0.here hx rfl (hb hby d6_0) rfl ?_
    show Steps p.tables e below (s₁.setTop (mkF m 1 #[.val (.long q1), .second, .val (.int p2)] [(.long q1)])) _
    refine XS.iloadN X0.here hx rfl (hb hby d6_1) rfl ?_
    show Steps p.tables e below (s₁.setTop (mkF m 2 #[.val (.long q1), .second, .val (.int p2)] [(.int p2), (.long q1)])) _
    refine XS.lshl X0.here hx rfl (hb hby d6_2) rfl ?_
    show Steps p.tables e below (s₁.setTop (mkF m 3 #[.val (.long q1), .second, .val (.int p2)] [(.long (q1 <<< (p2 &&& 0x3f).toInt64))])) _
    refine XS.lloadN X0.here hx rfl (hb hby d6_3) rfl ?_
    show Steps p.tables e below (s₁.setTop (mkF m 4 #[.val (.long q1), .second, .val (.int p2)] [(.long q1), (.long (q1 <<< (p2 &&& 0x3f).toInt64))])) _
    refine XS.iloadN X0.here hx rfl (hb hby d6_4) rfl ?_
    show Steps p.tables e below (s₁.setTop (mkF m 5 #[.val (.long q1), .second, .val (.int p2)] [(.int p2), (.long q1), (.long (q1 <<< (p2 &&& 0x3f).toInt64))])) _
    refine XS.ineg X0.here hx rfl (hb hby d6_5) rfl ?_
    show Steps p.tables e below (s₁.setTop (mkF m 6 #[.val (.long q1), .second, .val (.int p2)] [(.int (-p2)), (.long q1), (.long (q1 <<< (p2 &&& 0x3f).toInt64))])) _
    refine XS.lushr X0.here hx rfl (hb hby d6_6) rfl ?_
    show Steps p.tables e below (s₁.setTop (mkF m 7 #[.val (.long q1), .second, .val (.int p2)] [(.long ((q1.toUInt64 >>> ((-p2) &&& 0x3f).toInt64.toUInt64).toInt64)), (.long (q1 <<< (p2 &&& 0x3f).toInt64))])) _
    refine XS.lor X0.here hx rfl (hb hby d6_7) rfl ?_
    exact k)
  obtain ⟨fs, hr, hrun, hended, hW, hsame⟩ := X0.leave (v := some (.long ((q1 <<< (p2 &&& 0x3f).toInt64) ||| ((q1.toUInt64 >>> ((-p2) &&& 0x3f).toInt64.toUInt64).toInt64)))) (fun h => by rw [Bd.returns] at h; cases h)
  refine ⟨_, _, k2 _ ?_, hrun, hended, _, _, rfl, ?_, ⟨_, rfl⟩, hW, hsame.mono (by decide) (by decide)⟩
  · show Steps p.tables e below (s₁.setTop (mkF m 8 #[.val (.long q1), .second, .val (.int p2)] [(.long ((q1 <<< (p2 &&& 0x3f).toInt64) ||| ((q1.toUInt64 >>> ((-p2) &&& 0x3f).toInt64.toUInt64).toInt64)))])) _
    exact X0.lreturnOut hx Bd.returns (hb hby d6_8) hr
  ·
    show Qrotl _ q1 p2 h0 n0 _ s₁.heap _
    rw [e0]
    exact ⟨by rw [hv], N0, rfl⟩
def own_rnd (s : Int64 × Int64 × Int64 × Int64) : Int64 × Int64 × Int64 × Int64 :=
  let a0 := s.1 + s.2.1
  let b0 := own_rotl s.2.1 13 ^^^ a0
  let c0 := own_rotl a0 32
  let d0 := s.2.2.1 + s.2.2.2
  let e0 := own_rotl s.2.2.2 16 ^^^ d0
  let a1 := c0 + e0
  let e1 := own_rotl e0 21 ^^^ a1
  let d1 := d0 + b0
  let b1 := own_rotl b0 17 ^^^ d1
  (a1, b1, own_rotl d1 32, e1)
def own_ini (ka kb : Int64) : Int64 × Int64 × Int64 × Int64 := (ka ^^^ (8317987319222330741 : Int64), kb ^^^ (7237128888997146477 : Int64), ka ^^^ (7816392313619706465 : Int64), kb ^^^ (8387220255154660723 : Int64))
def own_add (s : Int64 × Int64 × Int64 × Int64) (w : Int64) : Int64 × Int64 × Int64 × Int64 :=
  let t := own_rnd (own_rnd (s.1, s.2.1, s.2.2.1, s.2.2.2 ^^^ w))
  (t.1 ^^^ w, t.2.1, t.2.2.1, t.2.2.2)
def own_fin2 (s : Int64 × Int64 × Int64 × Int64) : Int64 × Int64 × Int64 × Int64 := own_rnd (own_rnd (own_rnd (own_rnd (s.1, s.2.1, s.2.2.1 ^^^ (255 : Int64), s.2.2.2))))
def own_fin (s : Int64 × Int64 × Int64 × Int64) (t : Int64) (n : Int32) : Int64 :=
  let r := own_fin2 (own_add s ((n.toInt64 <<< ((56 : Int32) &&& 0x3f).toInt64) ||| t))
  r.1 ^^^ r.2.1 ^^^ r.2.2.1 ^^^ r.2.2.2
theorem d1_0 : decode prog_33_method_1_code 0 = .ok (.aload_n 0, 1) := by decide +kernel
theorem d1_1 : decode prog_33_method_1_code 1 = .ok (.invokespecial 1, 3) := by decide +kernel
theorem d1_4 : decode prog_33_method_1_code 4 = .ok (.aload_n 0, 1) := by decide +kernel
theorem d1_5 : decode prog_33_method_1_code 5 = .ok (.lload_n 1, 1) := by decide +kernel
theorem d1_6 : decode prog_33_method_1_code 6 = .ok (.putfield 7, 3) := by decide +kernel
theorem d1_9 : decode prog_33_method_1_code 9 = .ok (.aload_n 0, 1) := by decide +kernel
theorem d1_10 : decode prog_33_method_1_code 10 = .ok (.lload_n 3, 1) := by decide +kernel
theorem d1_11 : decode prog_33_method_1_code 11 = .ok (.putfield 13, 3) := by decide +kernel
theorem d1_14 : decode prog_33_method_1_code 14 = .ok (.return_, 1) := by decide +kernel
theorem pn_1 : plainName "com/example/stint/stint/core/SipHash" = true := by first | (simp [plainName, overriddenIn]; done) | decide +kernel
theorem ef_init (m : MethodId) (x0 : Addr) (x1 : Int64) (x2 : Int64) : entryFrame m #[(.ref x0), (.long x1), (.long x2)] 5 = mkF m 0 #[.val (.ref x0), .val (.long x1), .second, .val (.long x2), .second] [] := by first | (simp [entryFrame, mkF, argsToLocals, Value.category]; done) | rfl
def Qinit (Z : State) (a1 : Addr) (q2 : Int64) (q3 : Int64) (h0 : Heap) (n0 : Nat) (v : Option Value) (h : Heap) (L : List Loc) : Prop := v = none ∧ Fr n0 L ∧ Keep h0 h [a1] ∧ own_Sip Z h a1 q2 q3 ((0 : Int64), (0 : Int64), (0 : Int64), (0 : Int64))
set_option maxRecDepth 65536 in
set_option maxHeartbeats 40000000 in
theorem rm_init (l : Launch) (Z : State) (a0 : Array Value) (hw : ∀ d ∈ tables_1, d.before a0 Z = true) (ws : List Jvm.Cond) (a1 : Addr) (q2 : Int64) (q3 : Int64) (h0 : Heap) (n0 : Nat) (Z0 : n0 ≤ h0.size) (E_a1 : Exa Z h0 a1 "com/example/stint/stint/core/SipHash") (F_k0_a1 : Fld Z h0 a1 "com/example/stint/stint/core/SipHash" "k0" "J" (.long (0 : Int64))) (F_k1_a1 : Fld Z h0 a1 "com/example/stint/stint/core/SipHash" "k1" "J" (.long (0 : Int64))) (F_v0_a1 : Fld Z h0 a1 "com/example/stint/stint/core/SipHash" "v0" "J" (.long (0 : Int64))) (F_v1_a1 : Fld Z h0 a1 "com/example/stint/stint/core/SipHash" "v1" "J" (.long (0 : Int64))) (F_v2_a1 : Fld Z h0 a1 "com/example/stint/stint/core/SipHash" "v2" "J" (.long (0 : Int64))) (F_v3_a1 : Fld Z h0 a1 "com/example/stint/stint/core/SipHash" "v3" "J" (.long (0 : Int64))) (g_a1 : n0 ≤ a1) :
    MetFree l (⟨"com/example/stint/stint/core/SipHash", "<init>", "(JJ)V"⟩ : MethodName) (head1 (Jvm.Cond.code (⟨"com/example/stint/stint/core/SipHash", "<init>", "(JJ)V"⟩ : MethodName) prog_33_method_1_code 5 none :: ws) ({ frames := 1, cells := 0, slots := 0, locals := 12 } : Room)) (fun a U => a = #[(.ref a1), (.long q2), (.long q3)] ∧ Z.Warmed39 U.vm ∧ U.heap = h0) (fun _ _ _ _ _ => True) (fun _ U o U' => ∃ v L, o = .returned v ∧ Qinit Z a1 q2 q3 h0 n0 v U'.heap L ∧ FrameEnd U o U' L ({ frames := 1, cells := 0, slots := 0, locals := 12 } : Room).cells ({ frames := 1, cells := 0, slots := 0, locals := 12 } : Room).slots) := by
  refine MetFree.of_bodySF (plainFor_of_name pn_1) hisR ?_
  intro p e s m args below meth c s₁ Bd hml0 hP hK
  obtain ⟨rfl, hZ, hh⟩ := hP
  have hx := Bd.exec
  have hby := Bd.bytes
  have hml : c.maxLocals = 5 := hml0
  have hown : s.vm.findClass "com/example/stint/stint/core/SipHash" = some m.cls := findClass_of_methodNamed Bd.named
  have hnm := (name_of_methodNamed Bd.named Bd.method).1
  have X0 : Stand p l e ({ frames := 1, cells := 0, slots := 0, locals := 12 } : Room) s m #[(.ref a1), (.long q2), (.long q3)] below meth c s₁ [] 0 0 := Stand.of_body Bd
  have e0 : s₁.heap = h0 := by rw [← hh, Bd.state]; rfl
  have N0 := Fr.nil n0
  have k0 : ∀ t, Steps p.tables e below (s₁.setTop (mkF m 0 #[.val (.ref a1), .val (.long q2), .second, .val (.long q3), .second] [])) t → Steps p.tables e below (s₁.setTop (entryFrame m #[(.ref a1), (.long q2), (.long q3)] 5)) t := fun t k => castTop (ef_init m a1 q2 q3) k
  obtain ⟨T1, X1, e1, st1⟩ := initO X0 hx hZ hown (hw _ (List.mem_of_getElem? (i := 6) rfl)) (hw _ (List.mem_of_getElem? (i := 7) rfl)) (hw _ (List.mem_of_getElem? (i := 8) rfl)) e0 (g := (mkF m 1 #[.val (.ref a1), .val (.long q2), .second, .val (.long q3), .second] [(.ref a1)])) rfl (by rw [hml]; rfl) rfl (hb hby d1_1) (by decide) (W := 0) (by show 2 * 0 + _ ≤ _; exact Nat.le_of_eq rfl) (by decide)
  obtain ⟨T2, h2, X2, e2, W2, st2⟩ := putF X1 hx hZ hown (host := "") (Or.inl (hw _ (List.mem_of_getElem? (i := 9) rfl))) Via.refl e1 F_k0_a1 E_a1 (Or.inr ⟨(hw _ (List.mem_of_getElem? (i := 10) rfl)), rfl, hnm⟩) (hw _ (List.mem_of_getElem? (i := 1) rfl)) (ty := .long) (by decide) rfl rfl (g := (mkF m 6 #[.val (.ref a1), .val (.long q2), .second, .val (.long q3), .second] [(.long q2), (.ref a1)])) rfl rfl (hb hby d1_6)
  have N2 := Fr.snoc X2 N0 g_a1
  have F3 : Fld Z h2 a1 "com/example/stint/stint/core/SipHash" "k0" "J" (.long q2) := F_k0_a1.same W2
  have E4 : Exa Z h2 a1 "com/example/stint/stint/core/SipHash" := E_a1.wr W2
  have F5 : Fld Z h2 a1 "com/example/stint/stint/core/SipHash" "k1" "J" (.long (0 : Int64)) := F_k1_a1.other W2 (Or.inr (slot_ne (Or.inr (hw _ (List.mem_of_getElem? (i := 12) rfl))) (Or.inr (hw _ (List.mem_of_getElem? (i := 10) rfl))) (by decide) (t := .long) (t' := .long) (by decide) (by decide)))
  have F6 : Fld Z h2 a1 "com/example/stint/stint/core/SipHash" "v0" "J" (.long (0 : Int64)) := F_v0_a1.other W2 (Or.inr (slot_ne (Or.inl (hw _ (List.mem_of_getElem? (i := 20) rfl))) (Or.inr (hw _ (List.mem_of_getElem? (i := 10) rfl))) (by decide) (t := .long) (t' := .long) (by decide) (by decide)))
  have F7 : Fld Z h2 a1 "com/example/stint/stint/core/SipHash" "v1" "J" (.long (0 : Int64)) := F_v1_a1.other W2 (Or.inr (slot_ne (Or.inl (hw _ (List.mem_of_getElem? (i := 23) rfl))) (Or.inr (hw _ (List.mem_of_getElem? (i := 10) rfl))) (by decide) (t := .long) (t' := .long) (by decide) (by decide)))
  have F8 : Fld Z h2 a1 "com/example/stint/stint/core/SipHash" "v2" "J" (.long (0 : Int64)) := F_v2_a1.other W2 (Or.inr (slot_ne (Or.inl (hw _ (List.mem_of_getElem? (i := 26) rfl))) (Or.inr (hw _ (List.mem_of_getElem? (i := 10) rfl))) (by decide) (t := .long) (t' := .long) (by decide) (by decide)))
  have F9 : Fld Z h2 a1 "com/example/stint/stint/core/SipHash" "v3" "J" (.long (0 : Int64)) := F_v3_a1.other W2 (Or.inr (slot_ne (Or.inl (hw _ (List.mem_of_getElem? (i := 29) rfl))) (Or.inr (hw _ (List.mem_of_getElem? (i := 10) rfl))) (by decide) (t := .long) (t' := .long) (by decide) (by decide)))
  have K10 : Keep h0 h2 [a1] := (Keep.refl h0 [a1]).wr W2 (Or.inl (List.mem_of_getElem? (i := 0) rfl))
  obtain ⟨T11, h11, X11, e11, W11, st11⟩ := putF X2 hx hZ hown (host := "") (Or.inl (hw _ (List.mem_of_getElem? (i := 11) rfl))) Via.refl e2 F5 E4 (Or.inr ⟨(hw _ (List.mem_of_getElem? (i := 12) rfl)), rfl, hnm⟩) (hw _ (List.mem_of_getElem? (i := 1) rfl)) (ty := .long) (by decide) rfl rfl (g := (mkF m 11 #[.val (.ref a1), .val (.long q2), .second, .val (.long q3), .second] [(.long q3), (.ref a1)])) rfl rfl (hb hby d1_11)
  have N11 := Fr.snoc X11 N2 g_a1
  have F12 : Fld Z h11 a1 "com/example/stint/stint/core/SipHash" "k1" "J" (.long q3) := F5.same W11
  have E13 : Exa Z h11 a1 "com/example/stint/stint/core/SipHash" := E4.wr W11
  have F14 : Fld Z h11 a1 "com/example/stint/stint/core/SipHash" "k0" "J" (.long q2) := F3.other W11 (Or.inr (slot_ne (Or.inr (hw _ (List.mem_of_getElem? (i := 10) rfl))) (Or.inr (hw _ (List.mem_of_getElem? (i := 12) rfl))) (by decide) (t := .long) (t' := .long) (by decide) (by decide)))
  have F15 : Fld Z h11 a1 "com/example/stint/stint/core/SipHash" "v0" "J" (.long (0 : Int64)) := F6.other W11 (Or.inr (slot_ne (Or.inl (hw _ (List.mem_of_getElem? (i := 20) rfl))) (Or.inr (hw _ (List.mem_of_getElem? (i := 12) rfl))) (by decide) (t := .long) (t' := .long) (by decide) (by decide)))
  have F16 : Fld Z h11 a1 "com/example/stint/stint/core/SipHash" "v1" "J" (.long (0 : Int64)) := F7.other W11 (Or.inr (slot_ne (Or.inl (hw _ (List.mem_of_getElem? (i := 23) rfl))) (Or.inr (hw _ (List.mem_of_getElem? (i := 12) rfl))) (by decide) (t := .long) (t' := .long) (by decide) (by decide)))
  have F17 : Fld Z h11 a1 "com/example/stint/stint/core/SipHash" "v2" "J" (.long (0 : Int64)) := F8.other W11 (Or.inr (slot_ne (Or.inl (hw _ (List.mem_of_getElem? (i := 26) rfl))) (Or.inr (hw _ (List.mem_of_getElem? (i := 12) rfl))) (by decide) (t := .long) (t' := .long) (by decide) (by decide)))
  have F18 : Fld Z h11 a1 "com/example/stint/stint/core/SipHash" "v3" "J" (.long (0 : Int64)) := F9.other W11 (Or.inr (slot_ne (Or.inl (hw _ (List.mem_of_getElem? (i := 29) rfl))) (Or.inr (hw _ (List.mem_of_getElem? (i := 12) rfl))) (by decide) (t := .long) (t' := .long) (by decide) (by decide)))
  have K19 : Keep h0 h11 [a1] := K10.wr W11 (Or.inl (List.mem_of_getElem? (i := 0) rfl))
  have k21 : ∀ t, Steps p.tables e below (T11.setTop (mkF m 14 #[.val (.ref a1), .val (.long q2), .second, .val (.long q3), .second] [])) t → Steps p.tables e below (s₁.setTop (entryFrame m #[(.ref a1), (.long q2), (.long q3)] 5)) t := fun t k => k0 t (by
    show Steps p.tables e below (s₁.setTop (mkF m 0 #[.val (.ref a1), .val (.long q2), .second, .val (.long q3), .second] [])) _
    refine XS.aloadN X0.here hx rfl (hb hby d1_0) rfl rfl ?_
    show Steps p.tables e below (s₁.setTop (mkF m 1 #[.val (.ref a1), .val (.long q2), .second, .val (.long q3), .second] [(.ref a1)])) _
    refine st1 _ ?_
    show Steps p.tables e below (T1.setTop (mkF m 4 #[.val (.ref a1), .val (.long q2), .second, .val (.long q3), .second] [])) _
    refine XS.aloadN X1.here hx rfl (hb hby d1_4) rfl rfl ?_
    show Steps p.tables e below (T1.setTop (mkF m 5 #[.val (.ref a1), .val (.long q2), .second, .val (.long q3), .second] [(.ref a1)])) _
    refine XS.lloadN X1.here hx rfl (hb hby d1_5) rfl ?_
    show Steps p.tables e below (T1.setTop (mkF m 6 #[.val (.ref a1), .val (.long q2), .second, .val (.long q3), .second] [(.long q2), (.ref a1)])) _
    refine st2 _ ?_
    show Steps p.tables e below (T2.setTop (mkF m 9 #[.val (.ref a1), .val (.long q2), .second, .val (.long q3), .second] [])) _
    refine XS.aloadN X2.here hx rfl (hb hby d1_9) rfl rfl ?_
    show Steps p.tables e below (T2.setTop (mkF m 10 #[.val (.ref a1), .val (.long q2), .second, .val (.long q3), .second] [(.ref a1)])) _
    refine XS.lloadN X2.here hx rfl (hb hby d1_10) rfl ?_
    show Steps p.tables e below (T2.setTop (mkF m 11 #[.val (.ref a1), .val (.long q2), .second, .val (.long q3), .second] [(.long q3), (.ref a1)])) _
    refine st11 _ ?_
    exact k)
  obtain ⟨fs, hr, hrun, hended, hW, hsame⟩ := X11.leave (v := none) (fun _ => rfl)
  refine ⟨_, _, k21 _ ?_, hrun, hended, _, _, rfl, ?_, ⟨_, rfl⟩, hW, hsame.mono (by decide) (by decide)⟩
  · show Steps p.tables e below (T11.setTop (mkF m 14 #[.val (.ref a1), .val (.long q2), .second, .val (.long q3), .second] [])) _
    exact X11.returnOut hx Bd.returns (hb hby d1_14) hr
  ·
    show Qinit _ a1 q2 q3 h0 n0 _ T11.heap _
    rw [e11]
    exact ⟨rfl, N11, K19, ⟨E13, F14, F12, F15, F16, F17, F18⟩⟩
theorem d3_0 : decode prog_33_method_2_code 0 = .ok (.aload_n 0, 1) := by decide +kernel
theorem d3_1 : decode prog_33_method_2_code 1 = .ok (.aload_n 0, 1) := by decide +kernel
theorem d3_2 : decode prog_33_method_2_code 2 = .ok (.getfield 7, 3) := by decide +kernel
theorem d3_5 : decode prog_33_method_2_code 5 = .ok (.ldc2_w 16, 3) := by decide +kernel
theorem d3_8 : decode prog_33_method_2_code 8 = .ok (.lxor, 1) := by decide +kernel
theorem d3_9 : decode prog_33_method_2_code 9 = .ok (.putfield 18, 3) := by decide +kernel
theorem d3_12 : decode prog_33_method_2_code 12 = .ok (.aload_n 0, 1) := by decide +kernel
theorem d3_13 : decode prog_33_method_2_code 13 = .ok (.aload_n 0, 1) := by decide +kernel
theorem d3_14 : decode prog_33_method_2_code 14 = .ok (.getfield 13, 3) := by decide +kernel
theorem d3_17 : decode prog_33_method_2_code 17 = .ok (.ldc2_w 21, 3) := by decide +kernel
theorem d3_20 : decode prog_33_method_2_code 20 = .ok (.lxor, 1) := by decide +kernel
theorem d3_21 : decode prog_33_method_2_code 21 = .ok (.putfield 23, 3) := by decide +kernel
theorem d3_24 : decode prog_33_method_2_code 24 = .ok (.aload_n 0, 1) := by decide +kernel
theorem d3_25 : decode prog_33_method_2_code 25 = .ok (.aload_n 0, 1) := by decide +kernel
theorem d3_26 : decode prog_33_method_2_code 26 = .ok (.getfield 7, 3) := by decide +kernel
theorem d3_29 : decode prog_33_method_2_code 29 = .ok (.ldc2_w 26, 3) := by decide +kernel
theorem d3_32 : decode prog_33_method_2_code 32 = .ok (.lxor, 1) := by decide +kernel
theorem d3_33 : decode prog_33_method_2_code 33 = .ok (.putfield 28, 3) := by decide +kernel
theorem d3_36 : decode prog_33_method_2_code 36 = .ok (.aload_n 0, 1) := by decide +kernel
theorem d3_37 : decode prog_33_method_2_code 37 = .ok (.aload_n 0, 1) := by decide +kernel
theorem d3_38 : decode prog_33_method_2_code 38 = .ok (.getfield 13, 3) := by decide +kernel
theorem d3_41 : decode prog_33_method_2_code 41 = .ok (.ldc2_w 31, 3) := by decide +kernel
theorem d3_44 : decode prog_33_method_2_code 44 = .ok (.lxor, 1) := by decide +kernel
theorem d3_45 : decode prog_33_method_2_code 45 = .ok (.putfield 33, 3) := by decide +kernel
theorem d3_48 : decode prog_33_method_2_code 48 = .ok (.aload_n 0, 1) := by decide +kernel
theorem d3_49 : decode prog_33_method_2_code 49 = .ok (.areturn, 1) := by decide +kernel
theorem pn_3 : plainName "com/example/stint/stint/core/SipHash" = true := by first | (simp [plainName, overriddenIn]; done) | decide +kernel
theorem ef_start (m : MethodId) (x0 : Addr) : entryFrame m #[(.ref x0)] 1 = mkF m 0 #[.val (.ref x0)] [] := by first | (simp [entryFrame, mkF, argsToLocals, Value.category]; done) | rfl
def Qstart (Z : State) (a1 : Addr) (ka : Int64) (kb : Int64) (sv : Int64 × Int64 × Int64 × Int64) (h0 : Heap) (n0 : Nat) (v : Option Value) (h : Heap) (L : List Loc) : Prop := v = some (.ref a1) ∧ Fr n0 L ∧ Keep h0 h [a1] ∧ own_Sip Z h a1 ka kb (own_ini ka kb)
set_option maxRecDepth 65536 in
set_option maxHeartbeats 40000000 in
theorem rm_start (l : Launch) (Z : State) (a0 : Array Value) (hw : ∀ d ∈ tables_1, d.before a0 Z = true) (ws : List Jvm.Cond) (a1 : Addr) (ka : Int64) (kb : Int64) (sv : Int64 × Int64 × Int64 × Int64) (h0 : Heap) (n0 : Nat) (Z0 : n0 ≤ h0.size) (S_a1 : own_Sip Z h0 a1 ka kb sv) (g_a1 : n0 ≤ a1) :
    MetFree l (⟨"com/example/stint/stint/core/SipHash", "start", "()Lcom/example/stint/stint/core/SipHash;"⟩ : MethodName) (head1 (Jvm.Cond.code (⟨"com/example/stint/stint/core/SipHash", "start", "()Lcom/example/stint/stint/core/SipHash;"⟩ : MethodName) prog_33_method_2_code 1 (some (.object "com/example/stint/stint/core/SipHash")) :: ws) ({ frames := 0, cells := 0, slots := 0, locals := 0 } : Room)) (fun a U => a = #[(.ref a1)] ∧ Z.Warmed39 U.vm ∧ U.heap = h0) (fun _ _ _ _ _ => True) (fun _ U o U' => ∃ v L, o = .returned v ∧ Qstart Z a1 ka kb sv h0 n0 v U'.heap L ∧ FrameEnd U o U' L ({ frames := 0, cells := 0, slots := 0, locals := 0 } : Room).cells ({ frames := 0, cells := 0, slots := 0, locals := 0 } : Room).slots) := by
  refine MetFree.of_bodySF (plainFor_of_name pn_3) hisR ?_
  intro p e s m args below meth c s₁ Bd hml0 hP hK
  obtain ⟨rfl, hZ, hh⟩ := hP
  have hx := Bd.exec
  have hby := Bd.bytes
  have hml : c.maxLocals = 1 := hml0
  have hown : s.vm.findClass "com/example/stint/stint/core/SipHash" = some m.cls := findClass_of_methodNamed Bd.named
  have hnm := (name_of_methodNamed Bd.named Bd.method).1
  have X0 : Stand p l e ({ frames := 0, cells := 0, slots := 0, locals := 0 } : Room) s m #[(.ref a1)] below meth c s₁ [] 0 0 := Stand.of_body Bd
  have e0 : s₁.heap = h0 := by rw [← hh, Bd.state]; rfl
  have N0 := Fr.nil n0
  have k0 : ∀ t, Steps p.tables e below (s₁.setTop (mkF m 0 #[.val (.ref a1)] [])) t → Steps p.tables e below (s₁.setTop (entryFrame m #[(.ref a1)] 1)) t := fun t k => castTop (ef_start m a1) k
  obtain ⟨E_a1, F_k0_a1, F_k1_a1, F_v0_a1, F_v1_a1, F_v2_a1, F_v3_a1⟩ := S_a1
  obtain ⟨T1, X1, e1, st1⟩ := getF X0 hx hZ hown (host := "") (Or.inl (hw _ (List.mem_of_getElem? (i := 9) rfl))) Via.refl e0 F_k0_a1 (g := (mkF m 2 #[.val (.ref a1)] [(.ref a1), (.ref a1)])) rfl rfl (hb hby d3_2)
  obtain ⟨T2, h2, X2, e2, W2, st2⟩ := putF X1 hx hZ hown (host := "") (Or.inl (hw _ (List.mem_of_getElem? (i := 19) rfl))) Via.refl e1 F_v0_a1 E_a1 (Or.inl (hw _ (List.mem_of_getElem? (i := 20) rfl))) (hw _ (List.mem_of_getElem? (i := 1) rfl)) (ty := .long) (by decide) rfl rfl (g := (mkF m 9 #[.val (.ref a1)] [(.long (ka ^^^ (8317987319222330741 : Int64))), (.ref a1)])) rfl rfl (hb hby d3_9)
  have N2 := Fr.snoc X2 N0 g_a1
  have F3 : Fld Z h2 a1 "com/example/stint/stint/core/SipHash" "v0" "J" (.long (ka ^^^ (8317987319222330741 : Int64))) := F_v0_a1.same W2
  have E4 : Exa Z h2 a1 "com/example/stint/stint/core/SipHash" := E_a1.wr W2
  have F5 : Fld Z h2 a1 "com/example/stint/stint/core/SipHash" "k0" "J" (.long ka) := F_k0_a1.other W2 (Or.inr (slot_ne (Or.inr (hw _ (List.mem_of_getElem? (i := 10) rfl))) (Or.inl (hw _ (List.mem_of_getElem? (i := 20) rfl))) (by decide) (t := .long) (t' := .long) (by decide) (by decide)))
  have F6 : Fld Z h2 a1 "com/example/stint/stint/core/SipHash" "k1" "J" (.long kb) := F_k1_a1.other W2 (Or.inr (slot_ne (Or.inr (hw _ (List.mem_of_getElem? (i := 12) rfl))) (Or.inl (hw _ (List.mem_of_getElem? (i := 20) rfl))) (by decide) (t := .long) (t' := .long) (by decide) (by decide)))
  have F7 : Fld Z h2 a1 "com/example/stint/stint/core/SipHash" "v1" "J" (.long sv.2.1) := F_v1_a1.other W2 (Or.inr (slot_ne (Or.inl (hw _ (List.mem_of_getElem? (i := 23) rfl))) (Or.inl (hw _ (List.mem_of_getElem? (i := 20) rfl))) (by decide) (t := .long) (t' := .long) (by decide) (by decide)))
  have F8 : Fld Z h2 a1 "com/example/stint/stint/core/SipHash" "v2" "J" (.long sv.2.2.1) := F_v2_a1.other W2 (Or.inr (slot_ne (Or.inl (hw _ (List.mem_of_getElem? (i := 26) rfl))) (Or.inl (hw _ (List.mem_of_getElem? (i := 20) rfl))) (by decide) (t := .long) (t' := .long) (by decide) (by decide)))
  have F9 : Fld Z h2 a1 "com/example/stint/stint/core/SipHash" "v3" "J" (.long sv.2.2.2) := F_v3_a1.other W2 (Or.inr (slot_ne (Or.inl (hw _ (List.mem_of_getElem? (i := 29) rfl))) (Or.inl (hw _ (List.mem_of_getElem? (i := 20) rfl))) (by decide) (t := .long) (t' := .long) (by decide) (by decide)))
  have K10 : Keep h0 h2 [a1] := (Keep.refl h0 [a1]).wr W2 (Or.inl (List.mem_of_getElem? (i := 0) rfl))
  obtain ⟨T11, X11, e11, st11⟩ := getF X2 hx hZ hown (host := "") (Or.inl (hw _ (List.mem_of_getElem? (i := 11) rfl))) Via.refl e2 F6 (g := (mkF m 14 #[.val (.ref a1)] [(.ref a1), (.ref a1)])) rfl rfl (hb hby d3_14)
  obtain ⟨T12, h12, X12, e12, W12, st12⟩ := putF X11 hx hZ hown (host := "") (Or.inl (hw _ (List.mem_of_getElem? (i := 22) rfl))) Via.refl e11 F7 E4 (Or.inl (hw _ (List.mem_of_getElem? (i := 23) rfl))) (hw _ (List.mem_of_getElem? (i := 1) rfl)) (ty := .long) (by decide) rfl rfl (g := (mkF m 21 #[.val (.ref a1)] [(.long (kb ^^^ (7237128888997146477 : Int64))), (.ref a1)])) rfl rfl (hb hby d3_21)
  have N12 := Fr.snoc X12 N2 g_a1
  have F13 : Fld Z h12 a1 "com/example/stint/stint/core/SipHash" "v1" "J" (.long (kb ^^^ (7237128888997146477 : Int64))) := F7.same W12
  have E14 : Exa Z h12 a1 "com/example/stint/stint/core/SipHash" := E4.wr W12
  have F15 : Fld Z h12 a1 "com/example/stint/stint/core/SipHash" "k0" "J" (.long ka) := F5.other W12 (Or.inr (slot_ne (Or.inr (hw _ (List.mem_of_getElem? (i := 10) rfl))) (Or.inl (hw _ (List.mem_of_getElem? (i := 23) rfl))) (by decide) (t := .long) (t' := .long) (by decide) (by decide)))
  have F16 : Fld Z h12 a1 "com/example/stint/stint/core/SipHash" "k1" "J" (.long kb) := F6.other W12 (Or.inr (slot_ne (Or.inr (hw _ (List.mem_of_getElem? (i := 12) rfl))) (Or.inl (hw _ (List.mem_of_getElem? (i := 23) rfl))) (by decide) (t := .long) (t' := .long) (by decide) (by decide)))
  have F17 : Fld Z h12 a1 "com/example/stint/stint/core/SipHash" "v0" "J" (.long (ka ^^^ (8317987319222330741 : Int64))) := F3.other W12 (Or.inr (slot_ne (Or.inl (hw _ (List.mem_of_getElem? (i := 20) rfl))) (Or.inl (hw _ (List.mem_of_getElem? (i := 23) rfl))) (by decide) (t := .long) (t' := .long) (by decide) (by decide)))
  have F18 : Fld Z h12 a1 "com/example/stint/stint/core/SipHash" "v2" "J" (.long sv.2.2.1) := F8.other W12 (Or.inr (slot_ne (Or.inl (hw _ (List.mem_of_getElem? (i := 26) rfl))) (Or.inl (hw _ (List.mem_of_getElem? (i := 23) rfl))) (by decide) (t := .long) (t' := .long) (by decide) (by decide)))
  have F19 : Fld Z h12 a1 "com/example/stint/stint/core/SipHash" "v3" "J" (.long sv.2.2.2) := F9.other W12 (Or.inr (slot_ne (Or.inl (hw _ (List.mem_of_getElem? (i := 29) rfl))) (Or.inl (hw _ (List.mem_of_getElem? (i := 23) rfl))) (by decide) (t := .long) (t' := .long) (by decide) (by decide)))
  have K20 : Keep h0 h12 [a1] := K10.wr W12 (Or.inl (List.mem_of_getElem? (i := 0) rfl))
  obtain ⟨T21, X21, e21, st21⟩ := getF X12 hx hZ hown (host := "") (Or.inl (hw _ (List.mem_of_getElem? (i := 9) rfl))) Via.refl e12 F15 (g := (mkF m 26 #[.val (.ref a1)] [(.ref a1), (.ref a1)])) rfl rfl (hb hby d3_26)
  obtain ⟨T22, h22, X22, e22, W22, st22⟩ := putF X21 hx hZ hown (host := "") (Or.inl (hw _ (List.mem_of_getElem? (i := 25) rfl))) Via.refl e21 F18 E14 (Or.inl (hw _ (List.mem_of_getElem? (i := 26) rfl))) (hw _ (List.mem_of_getElem? (i := 1) rfl)) (ty := .long) (by decide) rfl rfl (g := (mkF m 33 #[.val (.ref a1)] [(.long (ka ^^^ (7816392313619706465 : Int64))), (.ref a1)])) rfl rfl (hb hby d3_33)
  have N22 := Fr.snoc X22 N12 g_a1
  have F23 : Fld Z h22 a1 "com/example/stint/stint/core/SipHash" "v2" "J" (.long (ka ^^^ (7816392313619706465 : Int64))) := F18.same W22
  have E24 : Exa Z h22 a1 "com/example/stint/stint/core/SipHash" := E14.wr W22
  have F25 : Fld Z h22 a1 "com/example/stint/stint/core/SipHash" "k0" "J" (.long ka) := F15.other W22 (Or.inr (slot_ne (Or.inr (hw _ (List.mem_of_getElem? (i := 10) rfl))) (Or.inl (hw _ (List.mem_of_getElem? (i := 26) rfl))) (by decide) (t := .long) (t' := .long) (by decide) (by decide)))
  have F26 : Fld Z h22 a1 "com/example/stint/stint/core/SipHash" "k1" "J" (.long kb) := F16.other W22 (Or.inr (slot_ne (Or.inr (hw _ (List.mem_of_getElem? (i := 12) rfl))) (Or.inl (hw _ (List.mem_of_getElem? (i := 26) rfl))) (by decide) (t := .long) (t' := .long) (by decide) (by decide)))
  have F27 : Fld Z h22 a1 "com/example/stint/stint/core/SipHash" "v0" "J" (.long (ka ^^^ (8317987319222330741 : Int64))) := F17.other W22 (Or.inr (slot_ne (Or.inl (hw _ (List.mem_of_getElem? (i := 20) rfl))) (Or.inl (hw _ (List.mem_of_getElem? (i := 26) rfl))) (by decide) (t := .long) (t' := .long) (by decide) (by decide)))
  have F28 : Fld Z h22 a1 "com/example/stint/stint/core/SipHash" "v1" "J" (.long (kb ^^^ (7237128888997146477 : Int64))) := F13.other W22 (Or.inr (slot_ne (Or.inl (hw _ (List.mem_of_getElem? (i := 23) rfl))) (Or.inl (hw _ (List.mem_of_getElem? (i := 26) rfl))) (by decide) (t := .long) (t' := .long) (by decide) (by decide)))
  have F29 : Fld Z h22 a1 "com/example/stint/stint/core/SipHash" "v3" "J" (.long sv.2.2.2) := F19.other W22 (Or.inr (slot_ne (Or.inl (hw _ (List.mem_of_getElem? (i := 29) rfl))) (Or.inl (hw _ (List.mem_of_getElem? (i := 26) rfl))) (by decide) (t := .long) (t' := .long) (by decide) (by decide)))
  have K30 : Keep h0 h22 [a1] := K20.wr W22 (Or.inl (List.mem_of_getElem? (i := 0) rfl))
  obtain ⟨T31, X31, e31, st31⟩ := getF X22 hx hZ hown (host := "") (Or.inl (hw _ (List.mem_of_getElem? (i := 11) rfl))) Via.refl e22 F26 (g := (mkF m 38 #[.val (.ref a1)] [(.ref a1), (.ref a1)])) rfl rfl (hb hby d3_38)
  obtain ⟨T32, h32, X32, e32, W32, st32⟩ := putF X31 hx hZ hown (host := "") (Or.inl (hw _ (List.mem_of_getElem? (i := 28) rfl))) Via.refl e31 F29 E24 (Or.inl (hw _ (List.mem_of_getElem? (i := 29) rfl))) (hw _ (List.mem_of_getElem? (i := 1) rfl)) (ty := .long) (by decide) rfl rfl (g := (mkF m 45 #[.val (.ref a1)] [(.long (kb ^^^ (8387220255154660723 : Int64))), (.ref a1)])) rfl rfl (hb hby d3_45)
  have N32 := Fr.snoc X32 N22 g_a1
  have F33 : Fld Z h32 a1 "com/example/stint/stint/core/SipHash" "v3" "J" (.long (kb ^^^ (8387220255154660723 : Int64))) := F29.same W32
  have E34 : Exa Z h32 a1 "com/example/stint/stint/core/SipHash" := E24.wr W32
  have F35 : Fld Z h32 a1 "com/example/stint/stint/core/SipHash" "k0" "J" (.long ka) := F25.other W32 (Or.inr (slot_ne (Or.inr (hw _ (List.mem_of_getElem? (i := 10) rfl))) (Or.inl (hw _ (List.mem_of_getElem? (i := 29) rfl))) (by decide) (t := .long) (t' := .long) (by decide) (by decide)))
  have F36 : Fld Z h32 a1 "com/example/stint/stint/core/SipHash" "k1" "J" (.long kb) := F26.other W32 (Or.inr (slot_ne (Or.inr (hw _ (List.mem_of_getElem? (i := 12) rfl))) (Or.inl (hw _ (List.mem_of_getElem? (i := 29) rfl))) (by decide) (t := .long) (t' := .long) (by decide) (by decide)))
  have F37 : Fld Z h32 a1 "com/example/stint/stint/core/SipHash" "v0" "J" (.long (ka ^^^ (8317987319222330741 : Int64))) := F27.other W32 (Or.inr (slot_ne (Or.inl (hw _ (List.mem_of_getElem? (i := 20) rfl))) (Or.inl (hw _ (List.mem_of_getElem? (i := 29) rfl))) (by decide) (t := .long) (t' := .long) (by decide) (by decide)))
  have F38 : Fld Z h32 a1 "com/example/stint/stint/core/SipHash" "v1" "J" (.long (kb ^^^ (7237128888997146477 : Int64))) := F28.other W32 (Or.inr (slot_ne (Or.inl (hw _ (List.mem_of_getElem? (i := 23) rfl))) (Or.inl (hw _ (List.mem_of_getElem? (i := 29) rfl))) (by decide) (t := .long) (t' := .long) (by decide) (by decide)))
  have F39 : Fld Z h32 a1 "com/example/stint/stint/core/SipHash" "v2" "J" (.long (ka ^^^ (7816392313619706465 : Int64))) := F23.other W32 (Or.inr (slot_ne (Or.inl (hw _ (List.mem_of_getElem? (i := 26) rfl))) (Or.inl (hw _ (List.mem_of_getElem? (i := 29) rfl))) (by decide) (t := .long) (t' := .long) (by decide) (by decide)))
  have K40 : Keep h0 h32 [a1] := K30.wr W32 (Or.inl (List.mem_of_getElem? (i := 0) rfl))
  have k42 : ∀ t, Steps p.tables e below (T32.setTop (mkF m 49 #[.val (.ref a1)] [(.ref a1)])) t → Steps p.tables e below (s₁.setTop (entryFrame m #[(.ref a1)] 1)) t := fun t k => k0 t (by
    show Steps p.tables e below (s₁.setTop (mkF m 0 #[.val (.ref a1)] [])) _
    refine XS.aloadN X0.here hx rfl (hb hby d3_0) rfl rfl ?_
    show Steps p.tables e below (s₁.setTop (mkF m 1 #[.val (.ref a1)] [(.ref a1)])) _
    refine XS.aloadN X0.here hx rfl (hb hby d3_1) rfl rfl ?_
    show Steps p.tables e below (s₁.setTop (mkF m 2 #[.val (.ref a1)] [(.ref a1), (.ref a1)])) _
    refine st1 _ ?_
    show Steps p.tables e below (T1.setTop (mkF m 5 #[.val (.ref a1)] [(.long ka), (.ref a1)])) _
    refine X1.ldc2Long hx hown (mvT hZ (hw _ (List.mem_of_getElem? (i := 18) rfl))) (g := (mkF m 5 #[.val (.ref a1)] [(.long ka), (.ref a1)])) rfl (hb hby d3_5) _ ?_
    show Steps p.tables e below (T1.setTop (mkF m 8 #[.val (.ref a1)] [(.long (8317987319222330741 : Int64)), (.long ka), (.ref a1)])) _
    refine XS.lxor X1.here hx rfl (hb hby d3_8) rfl ?_
    show Steps p.tables e below (T1.setTop (mkF m 9 #[.val (.ref a1)] [(.long (ka ^^^ (8317987319222330741 : Int64))), (.ref a1)])) _
    refine st2 _ ?_
    show Steps p.tables e below (T2.setTop (mkF m 12 #[.val (.ref a1)] [])) _
    refine XS.aloadN X2.here hx rfl (hb hby d3_12) rfl rfl ?_
    show Steps p.tables e below (T2.setTop (mkF m 13 #[.val (.ref a1)] [(.ref a1)])) _
    refine XS.aloadN X2.here hx rfl (hb hby d3_13) rfl rfl ?_
    show Steps p.tables e below (T2.setTop (mkF m 14 #[.val (.ref a1)] [(.ref a1), (.ref a1)])) _
    refine st11 _ ?_
    show Steps p.tables e below (T11.setTop (mkF m 17 #[.val (.ref a1)] [(.long kb), (.ref a1)])) _
    refine X11.ldc2Long hx hown (mvT hZ (hw _ (List.mem_of_getElem? (i := 21) rfl))) (g := (mkF m 17 #[.val (.ref a1)] [(.long kb), (.ref a1)])) rfl (hb hby d3_17) _ ?_
    show Steps p.tables e below (T11.setTop (mkF m 20 #[.val (.ref a1)] [(.long (7237128888997146477 : Int64)), (.long kb), (.ref a1)])) _
    refine XS.lxor X11.here hx rfl (hb hby d3_20) rfl ?_
    show Steps p.tables e below (T11.setTop (mkF m 21 #[.val (.ref a1)] [(.long (kb ^^^ (7237128888997146477 : Int64))), (.ref a1)])) _
    refine st12 _ ?_
    show Steps p.tables e below (T12.setTop (mkF m 24 #[.val (.ref a1)] [])) _
    refine XS.aloadN X12.here hx rfl (hb hby d3_24) rfl rfl ?_
    show Steps p.tables e below (T12.setTop (mkF m 25 #[.val (.ref a1)] [(.ref a1)])) _
    refine XS.aloadN X12.here hx rfl (hb hby d3_25) rfl rfl ?_
    show Steps p.tables e below (T12.setTop (mkF m 26 #[.val (.ref a1)] [(.ref a1), (.ref a1)])) _
    refine st21 _ ?_
    show Steps p.tables e below (T21.setTop (mkF m 29 #[.val (.ref a1)] [(.long ka), (.ref a1)])) _
    refine X21.ldc2Long hx hown (mvT hZ (hw _ (List.mem_of_getElem? (i := 24) rfl))) (g := (mkF m 29 #[.val (.ref a1)] [(.long ka), (.ref a1)])) rfl (hb hby d3_29) _ ?_
    show Steps p.tables e below (T21.setTop (mkF m 32 #[.val (.ref a1)] [(.long (7816392313619706465 : Int64)), (.long ka), (.ref a1)])) _
    refine XS.lxor X21.here hx rfl (hb hby d3_32) rfl ?_
    show Steps p.tables e below (T21.setTop (mkF m 33 #[.val (.ref a1)] [(.long (ka ^^^ (7816392313619706465 : Int64))), (.ref a1)])) _
    refine st22 _ ?_
    show Steps p.tables e below (T22.setTop (mkF m 36 #[.val (.ref a1)] [])) _
    refine XS.aloadN X22.here hx rfl (hb hby d3_36) rfl rfl ?_
    show Steps p.tables e below (T22.setTop (mkF m 37 #[.val (.ref a1)] [(.ref a1)])) _
    refine XS.aloadN X22.here hx rfl (hb hby d3_37) rfl rfl ?_
    show Steps p.tables e below (T22.setTop (mkF m 38 #[.val (.ref a1)] [(.ref a1), (.ref a1)])) _
    refine st31 _ ?_
    show Steps p.tables e below (T31.setTop (mkF m 41 #[.val (.ref a1)] [(.long kb), (.ref a1)])) _
    refine X31.ldc2Long hx hown (mvT hZ (hw _ (List.mem_of_getElem? (i := 27) rfl))) (g := (mkF m 41 #[.val (.ref a1)] [(.long kb), (.ref a1)])) rfl (hb hby d3_41) _ ?_
    show Steps p.tables e below (T31.setTop (mkF m 44 #[.val (.ref a1)] [(.long (8387220255154660723 : Int64)), (.long kb), (.ref a1)])) _
    refine XS.lxor X31.here hx rfl (hb hby d3_44) rfl ?_
    show Steps p.tables e below (T31.setTop (mkF m 45 #[.val (.ref a1)] [(.long (kb ^^^ (8387220255154660723 : Int64))), (.ref a1)])) _
    refine st32 _ ?_
    show Steps p.tables e below (T32.setTop (mkF m 48 #[.val (.ref a1)] [])) _
    refine XS.aloadN X32.here hx rfl (hb hby d3_48) rfl rfl ?_
    exact k)
  obtain ⟨fs, hr, hrun, hended, hW, hsame⟩ := X32.leave (v := some (.ref a1)) (fun h => by rw [Bd.returns] at h; cases h)
  refine ⟨_, _, k42 _ ?_, hrun, hended, _, _, rfl, ?_, ⟨_, rfl⟩, hW, hsame.mono (by decide) (by decide)⟩
  · show Steps p.tables e below (T32.setTop (mkF m 49 #[.val (.ref a1)] [(.ref a1)])) _
    exact X32.areturnOut hx rfl Bd.returns rfl (hb hby d3_49) hr
  ·
    show Qstart _ a1 ka kb sv h0 n0 _ T32.heap _
    rw [e32]
    exact ⟨rfl, N32, K40, ⟨E34, F35, F36, F37, F38, F39, F33⟩⟩
theorem pd__JI_J : parseMethodDescriptor "(JI)J" = some ⟨[.long, .int], some .long⟩ := by decide +kernel
theorem d5_0 : decode prog_33_method_5_code 0 = .ok (.aload_n 0, 1) := by decide +kernel
theorem d5_1 : decode prog_33_method_5_code 1 = .ok (.dup, 1) := by decide +kernel
theorem d5_2 : decode prog_33_method_5_code 2 = .ok (.getfield 18, 3) := by decide +kernel
theorem d5_5 : decode prog_33_method_5_code 5 = .ok (.aload_n 0, 1) := by decide +kernel
theorem d5_6 : decode prog_33_method_5_code 6 = .ok (.getfield 23, 3) := by decide +kernel
theorem d5_9 : decode prog_33_method_5_code 9 = .ok (.ladd, 1) := by decide +kernel
theorem d5_10 : decode prog_33_method_5_code 10 = .ok (.putfield 18, 3) := by decide +kernel
theorem d5_13 : decode prog_33_method_5_code 13 = .ok (.aload_n 0, 1) := by decide +kernel
theorem d5_14 : decode prog_33_method_5_code 14 = .ok (.aload_n 0, 1) := by decide +kernel
theorem d5_15 : decode prog_33_method_5_code 15 = .ok (.getfield 23, 3) := by decide +kernel
theorem d5_18 : decode prog_33_method_5_code 18 = .ok (.bipush 13, 2) := by decide +kernel
theorem d5_20 : decode prog_33_method_5_code 20 = .ok (.invokestatic 45, 3) := by decide +kernel
theorem d5_23 : decode prog_33_method_5_code 23 = .ok (.aload_n 0, 1) := by decide +kernel
theorem d5_24 : decode prog_33_method_5_code 24 = .ok (.getfield 18, 3) := by decide +kernel
theorem d5_27 : decode prog_33_method_5_code 27 = .ok (.lxor, 1) := by decide +kernel
theorem d5_28 : decode prog_33_method_5_code 28 = .ok (.putfield 23, 3) := by decide +kernel
theorem d5_31 : decode prog_33_method_5_code 31 = .ok (.aload_n 0, 1) := by decide +kernel
theorem d5_32 : decode prog_33_method_5_code 32 = .ok (.aload_n 0, 1) := by decide +kernel
theorem d5_33 : decode prog_33_method_5_code 33 = .ok (.getfield 18, 3) := by decide +kernel
theorem d5_36 : decode prog_33_method_5_code 36 = .ok (.bipush 32, 2) := by decide +kernel
theorem d5_38 : decode prog_33_method_5_code 38 = .ok (.invokestatic 45, 3) := by decide +kernel
theorem d5_41 : decode prog_33_method_5_code 41 = .ok (.putfield 18, 3) := by decide +kernel
theorem d5_44 : decode prog_33_method_5_code 44 = .ok (.aload_n 0, 1) := by decide +kernel
theorem d5_45 : decode prog_33_method_5_code 45 = .ok (.dup, 1) := by decide +kernel
theorem d5_46 : decode prog_33_method_5_code 46 = .ok (.getfield 28, 3) := by decide +kernel
theorem d5_49 : decode prog_33_method_5_code 49 = .ok (.aload_n 0, 1) := by decide +kernel
theorem d5_50 : decode prog_33_method_5_code 50 = .ok (.getfield 33, 3) := by decide +kernel
theorem d5_53 : decode prog_33_method_5_code 53 = .ok (.ladd, 1) := by decide +kernel
theorem d5_54 : decode prog_33_method_5_code 54 = .ok (.putfield 28, 3) := by decide +kernel
theorem d5_57 : decode prog_33_method_5_code 57 = .ok (.aload_n 0, 1) := by decide +kernel
theorem d5_58 : decode prog_33_method_5_code 58 = .ok (.aload_n 0, 1) := by decide +kernel
theorem d5_59 : decode prog_33_method_5_code 59 = .ok (.getfield 33, 3) := by decide +kernel
theorem d5_62 : decode prog_33_method_5_code 62 = .ok (.bipush 16, 2) := by decide +kernel
theorem d5_64 : decode prog_33_method_5_code 64 = .ok (.invokestatic 45, 3) := by decide +kernel
theorem d5_67 : decode prog_33_method_5_code 67 = .ok (.aload_n 0, 1) := by decide +kernel
theorem d5_68 : decode prog_33_method_5_code 68 = .ok (.getfield 28, 3) := by decide +kernel
theorem d5_71 : decode prog_33_method_5_code 71 = .ok (.lxor, 1) := by decide +kernel
theorem d5_72 : decode prog_33_method_5_code 72 = .ok (.putfield 33, 3) := by decide +kernel
theorem d5_75 : decode prog_33_method_5_code 75 = .ok (.aload_n 0, 1) := by decide +kernel
theorem d5_76 : decode prog_33_method_5_code 76 = .ok (.dup, 1) := by decide +kernel
theorem d5_77 : decode prog_33_method_5_code 77 = .ok (.getfield 18, 3) := by decide +kernel
theorem d5_80 : decode prog_33_method_5_code 80 = .ok (.aload_n 0, 1) := by decide +kernel
theorem d5_81 : decode prog_33_method_5_code 81 = .ok (.getfield 33, 3) := by decide +kernel
theorem d5_84 : decode prog_33_method_5_code 84 = .ok (.ladd, 1) := by decide +kernel
theorem d5_85 : decode prog_33_method_5_code 85 = .ok (.putfield 18, 3) := by decide +kernel
theorem d5_88 : decode prog_33_method_5_code 88 = .ok (.aload_n 0, 1) := by decide +kernel
theorem d5_89 : decode prog_33_method_5_code 89 = .ok (.aload_n 0, 1) := by decide +kernel
theorem d5_90 : decode prog_33_method_5_code 90 = .ok (.getfield 33, 3) := by decide +kernel
theorem d5_93 : decode prog_33_method_5_code 93 = .ok (.bipush 21, 2) := by decide +kernel
theorem d5_95 : decode prog_33_method_5_code 95 = .ok (.invokestatic 45, 3) := by decide +kernel
theorem d5_98 : decode prog_33_method_5_code 98 = .ok (.aload_n 0, 1) := by decide +kernel
theorem d5_99 : decode prog_33_method_5_code 99 = .ok (.getfield 18, 3) := by decide +kernel
theorem d5_102 : decode prog_33_method_5_code 102 = .ok (.lxor, 1) := by decide +kernel
theorem d5_103 : decode prog_33_method_5_code 103 = .ok (.putfield 33, 3) := by decide +kernel
theorem d5_106 : decode prog_33_method_5_code 106 = .ok (.aload_n 0, 1) := by decide +kernel
theorem d5_107 : decode prog_33_method_5_code 107 = .ok (.dup, 1) := by decide +kernel
theorem d5_108 : decode prog_33_method_5_code 108 = .ok (.getfield 28, 3) := by decide +kernel
theorem d5_111 : decode prog_33_method_5_code 111 = .ok (.aload_n 0, 1) := by decide +kernel
theorem d5_112 : decode prog_33_method_5_code 112 = .ok (.getfield 23, 3) := by decide +kernel
theorem d5_115 : decode prog_33_method_5_code 115 = .ok (.ladd, 1) := by decide +kernel
theorem d5_116 : decode prog_33_method_5_code 116 = .ok (.putfield 28, 3) := by decide +kernel
theorem d5_119 : decode prog_33_method_5_code 119 = .ok (.aload_n 0, 1) := by decide +kernel
theorem d5_120 : decode prog_33_method_5_code 120 = .ok (.aload_n 0, 1) := by decide +kernel
theorem d5_121 : decode prog_33_method_5_code 121 = .ok (.getfield 23, 3) := by decide +kernel
theorem d5_124 : decode prog_33_method_5_code 124 = .ok (.bipush 17, 2) := by decide +kernel
theorem d5_126 : decode prog_33_method_5_code 126 = .ok (.invokestatic 45, 3) := by decide +kernel
theorem d5_129 : decode prog_33_method_5_code 129 = .ok (.aload_n 0, 1) := by decide +kernel
theorem d5_130 : decode prog_33_method_5_code 130 = .ok (.getfield 28, 3) := by decide +kernel
theorem d5_133 : decode prog_33_method_5_code 133 = .ok (.lxor, 1) := by decide +kernel
theorem d5_134 : decode prog_33_method_5_code 134 = .ok (.putfield 23, 3) := by decide +kernel
theorem d5_137 : decode prog_33_method_5_code 137 = .ok (.aload_n 0, 1) := by decide +kernel
theorem d5_138 : decode prog_33_method_5_code 138 = .ok (.aload_n 0, 1) := by decide +kernel
theorem d5_139 : decode prog_33_method_5_code 139 = .ok (.getfield 28, 3) := by decide +kernel
theorem d5_142 : decode prog_33_method_5_code 142 = .ok (.bipush 32, 2) := by decide +kernel
theorem d5_144 : decode prog_33_method_5_code 144 = .ok (.invokestatic 45, 3) := by decide +kernel
theorem d5_147 : decode prog_33_method_5_code 147 = .ok (.putfield 28, 3) := by decide +kernel
theorem d5_150 : decode prog_33_method_5_code 150 = .ok (.return_, 1) := by decide +kernel
theorem pn_5 : plainName "com/example/stint/stint/core/SipHash" = true := by first | (simp [plainName, overriddenIn]; done) | decide +kernel
theorem ef_round (m : MethodId) (x0 : Addr) : entryFrame m #[(.ref x0)] 1 = mkF m 0 #[.val (.ref x0)] [] := by first | (simp [entryFrame, mkF, argsToLocals, Value.category]; done) | rfl
def Qround (Z : State) (a1 : Addr) (ka : Int64) (kb : Int64) (sv : Int64 × Int64 × Int64 × Int64) (h0 : Heap) (n0 : Nat) (v : Option Value) (h : Heap) (L : List Loc) : Prop := v = none ∧ Fr n0 L ∧ Keep h0 h [a1] ∧ own_Sip Z h a1 ka kb (own_rnd sv)
set_option maxRecDepth 65536 in
set_option maxHeartbeats 40000000 in
theorem rm_round (l : Launch) (Z : State) (a0 : Array Value) (hw : ∀ d ∈ tables_1, d.before a0 Z = true) (ws : List Jvm.Cond) (a1 : Addr) (ka : Int64) (kb : Int64) (sv : Int64 × Int64 × Int64 × Int64) (h0 : Heap) (n0 : Nat) (Z0 : n0 ≤ h0.size) (S_a1 : own_Sip Z h0 a1 ka kb sv) (g_a1 : n0 ≤ a1) :
    MetFree l (⟨"com/example/stint/stint/core/SipHash", "round", "()V"⟩ : MethodName) (head1 (Jvm.Cond.code (⟨"com/example/stint/stint/core/SipHash", "round", "()V"⟩ : MethodName) prog_33_method_5_code 1 none :: ws) ({ frames := 1, cells := 0, slots := 0, locals := 15 } : Room)) (fun a U => a = #[(.ref a1)] ∧ Z.Warmed39 U.vm ∧ U.heap = h0) (fun _ _ _ _ _ => True) (fun _ U o U' => ∃ v L, o = .returned v ∧ Qround Z a1 ka kb sv h0 n0 v U'.heap L ∧ FrameEnd U o U' L ({ frames := 1, cells := 0, slots := 0, locals := 15 } : Room).cells ({ frames := 1, cells := 0, slots := 0, locals := 15 } : Room).slots) := by
  refine MetFree.of_bodySF (plainFor_of_name pn_5) hisR ?_
  intro p e s m args below meth c s₁ Bd hml0 hP hK
  obtain ⟨rfl, hZ, hh⟩ := hP
  have hx := Bd.exec
  have hby := Bd.bytes
  have hml : c.maxLocals = 1 := hml0
  have hown : s.vm.findClass "com/example/stint/stint/core/SipHash" = some m.cls := findClass_of_methodNamed Bd.named
  have hnm := (name_of_methodNamed Bd.named Bd.method).1
  have X0 : Stand p l e ({ frames := 1, cells := 0, slots := 0, locals := 15 } : Room) s m #[(.ref a1)] below meth c s₁ [] 0 0 := Stand.of_body Bd
  have e0 : s₁.heap = h0 := by rw [← hh, Bd.state]; rfl
  have N0 := Fr.nil n0
  have k0 : ∀ t, Steps p.tables e below (s₁.setTop (mkF m 0 #[.val (.ref a1)] [])) t → Steps p.tables e below (s₁.setTop (entryFrame m #[(.ref a1)] 1)) t := fun t k => castTop (ef_round m a1) k
  obtain ⟨E_a1, F_k0_a1, F_k1_a1, F_v0_a1, F_v1_a1, F_v2_a1, F_v3_a1⟩ := S_a1
  obtain ⟨T1, X1, e1, st1⟩ := getF X0 hx hZ hown (host := "") (Or.inl (hw _ (List.mem_of_getElem? (i := 19) rfl))) Via.refl e0 F_v0_a1 (g := (mkF m 2 #[.val (.ref a1)] [(.ref a1), (.ref a1)])) rfl rfl (hb hby d5_2)
  obtain ⟨T2, X2, e2, st2⟩ := getF X1 hx hZ hown (host := "") (Or.inl (hw _ (List.mem_of_getElem? (i := 22) rfl))) Via.refl e1 F_v1_a1 (g := (mkF m 6 #[.val (.ref a1)] [(.ref a1), (.long sv.1), (.ref a1)])) rfl rfl (hb hby d5_6)
  obtain ⟨T3, h3, X3, e3, W3, st3⟩ := putF X2 hx hZ hown (host := "") (Or.inl (hw _ (List.mem_of_getElem? (i := 19) rfl))) Via.refl e2 F_v0_a1 E_a1 (Or.inl (hw _ (List.mem_of_getElem? (i := 20) rfl))) (hw _ (List.mem_of_getElem? (i := 1) rfl)) (ty := .long) (by decide) rfl rfl (g := (mkF m 10 #[.val (.ref a1)] [(.long (sv.1 + sv.2.1)), (.ref a1)])) rfl rfl (hb hby d5_10)
  have N3 := Fr.snoc X3 N0 g_a1
  have F4 : Fld Z h3 a1 "com/example/stint/stint/core/SipHash" "v0" "J" (.long (sv.1 + sv.2.1)) := F_v0_a1.same W3
  have E5 : Exa Z h3 a1 "com/example/stint/stint/core/SipHash" := E_a1.wr W3
  have F6 : Fld Z h3 a1 "com/example/stint/stint/core/SipHash" "k0" "J" (.long ka) := F_k0_a1.other W3 (Or.inr (slot_ne (Or.inr (hw _ (List.mem_of_getElem? (i := 10) rfl))) (Or.inl (hw _ (List.mem_of_getElem? (i := 20) rfl))) (by decide) (t := .long) (t' := .long) (by decide) (by decide)))
  have F7 : Fld Z h3 a1 "com/example/stint/stint/core/SipHash" "k1" "J" (.long kb) := F_k1_a1.other W3 (Or.inr (slot_ne (Or.inr (hw _ (List.mem_of_getElem? (i := 12) rfl))) (Or.inl (hw _ (List.mem_of_getElem? (i := 20) rfl))) (by decide) (t := .long) (t' := .long) (by decide) (by decide)))
  have F8 : Fld Z h3 a1 "com/example/stint/stint/core/SipHash" "v1" "J" (.long sv.2.1) := F_v1_a1.other W3 (Or.inr (slot_ne (Or.inl (hw _ (List.mem_of_getElem? (i := 23) rfl))) (Or.inl (hw _ (List.mem_of_getElem? (i := 20) rfl))) (by decide) (t := .long) (t' := .long) (by decide) (by decide)))
  have F9 : Fld Z h3 a1 "com/example/stint/stint/core/SipHash" "v2" "J" (.long sv.2.2.1) := F_v2_a1.other W3 (Or.inr (slot_ne (Or.inl (hw _ (List.mem_of_getElem? (i := 26) rfl))) (Or.inl (hw _ (List.mem_of_getElem? (i := 20) rfl))) (by decide) (t := .long) (t' := .long) (by decide) (by decide)))
  have F10 : Fld Z h3 a1 "com/example/stint/stint/core/SipHash" "v3" "J" (.long sv.2.2.2) := F_v3_a1.other W3 (Or.inr (slot_ne (Or.inl (hw _ (List.mem_of_getElem? (i := 29) rfl))) (Or.inl (hw _ (List.mem_of_getElem? (i := 20) rfl))) (by decide) (t := .long) (t' := .long) (by decide) (by decide)))
  have K11 : Keep h0 h3 [a1] := (Keep.refl h0 [a1]).wr W3 (Or.inl (List.mem_of_getElem? (i := 0) rfl))
  obtain ⟨T12, X12, e12, st12⟩ := getF X3 hx hZ hown (host := "") (Or.inl (hw _ (List.mem_of_getElem? (i := 22) rfl))) Via.refl e3 F8 (g := (mkF m 15 #[.val (.ref a1)] [(.ref a1), (.ref a1)])) rfl rfl (hb hby d5_15)
  obtain ⟨_, _, ⟨T14, L14, kk14, n14⟩, -, X14, ⟨Lc14, hQ14, l14, y14, z14⟩, st14⟩ := Jvm.LawKit.callS X12 hx (y := (⟨"java/lang/Long", "rotateLeft", "(JI)J"⟩ : MethodName)) hown (mvT hZ (hw _ (List.mem_of_getElem? (i := 39) rfl))) (mvT hZ (hw _ (List.mem_of_getElem? (i := 40) rfl))) (mvT hZ (hw _ (List.mem_of_getElem? (i := 41) rfl))) (mvT hZ (hw _ (List.mem_of_getElem? (i := 42) rfl))) (by decide) (backOf (W := 1) (rm_rotl l Z a0 hw [] sv.2.1 (13 : Int32) h3 n0 (Nat.le_trans Z0 K11.1)) hZ (hw _ (List.mem_of_getElem? (i := 42) rfl)) (hw _ (List.mem_of_getElem? (i := 41) rfl)) (by decide) (by decide)) (g := (mkF m 20 #[.val (.ref a1)] [(.int (13 : Int32)), (.long sv.2.1), (.ref a1)])) rfl (by rw [hml]; rfl) (argsL := [(.long sv.2.1), (.int (13 : Int32))]) (rest := [(.ref a1)]) (lenOf pd__JI_J rfl) rfl (by show 2 * 0 + _ ≤ _; exact Nat.le_of_eq rfl) (hb hby d5_20) (fun _ _ => ⟨rfl, e12, (by decide : 0 + 0 ≤ _), (by decide : 0 + 0 ≤ _)⟩)
  dsimp only [Pt.U, Pt.locs, Pt.cells, Pt.slots] at X14 l14 y14 z14 st14 hQ14
  subst l14 y14 z14
  obtain ⟨rfl, N14q, qr13⟩ := hQ14
  have N14 := Fr.app N3 N14q
  obtain ⟨T15, X15, e15, st15⟩ := getF X14 hx hZ hown (host := "") (Or.inl (hw _ (List.mem_of_getElem? (i := 19) rfl))) Via.refl qr13 F4 (g := (mkF m 24 #[.val (.ref a1)] [(.ref a1), (.long (own_rotl sv.2.1 (13 : Int32))), (.ref a1)])) rfl rfl (hb hby d5_24)
  obtain ⟨T16, h16, X16, e16, W16, st16⟩ := putF X15 hx hZ hown (host := "") (Or.inl (hw _ (List.mem_of_getElem? (i := 22) rfl))) Via.refl e15 F8 E5 (Or.inl (hw _ (List.mem_of_getElem? (i := 23) rfl))) (hw _ (List.mem_of_getElem? (i := 1) rfl)) (ty := .long) (by decide) rfl rfl (g := (mkF m 28 #[.val (.ref a1)] [(.long ((own_rotl sv.2.1 (13 : Int32)) ^^^ (sv.1 + sv.2.1))), (.ref a1)])) rfl rfl (hb hby d5_28)
  have N16 := Fr.snoc X16 N14 g_a1
  have F17 : Fld Z h16 a1 "com/example/stint/stint/core/SipHash" "v1" "J" (.long ((own_rotl sv.2.1 (13 : Int32)) ^^^ (sv.1 + sv.2.1))) := F8.same W16
  have E18 : Exa Z h16 a1 "com/example/stint/stint/core/SipHash" := E5.wr W16
  have F19 : Fld Z h16 a1 "com/example/stint/stint/core/SipHash" "k0" "J" (.long ka) := F6.other W16 (Or.inr (slot_ne (Or.inr (hw _ (List.mem_of_getElem? (i := 10) rfl))) (Or.inl (hw _ (List.mem_of_getElem? (i := 23) rfl))) (by decide) (t := .long) (t' := .long) (by decide) (by decide)))
  have F20 : Fld Z h16 a1 "com/example/stint/stint/core/SipHash" "k1" "J" (.long kb) := F7.other W16 (Or.inr (slot_ne (Or.inr (hw _ (List.mem_of_getElem? (i := 12) rfl))) (Or.inl (hw _ (List.mem_of_getElem? (i := 23) rfl))) (by decide) (t := .long) (t' := .long) (by decide) (by decide)))
  have F21 : Fld Z h16 a1 "com/example/stint/stint/core/SipHash" "v0" "J" (.long (sv.1 + sv.2.1)) := F4.other W16 (Or.inr (slot_ne (Or.inl (hw _ (List.mem_of_getElem? (i := 20) rfl))) (Or.inl (hw _ (List.mem_of_getElem? (i := 23) rfl))) (by decide) (t := .long) (t' := .long) (by decide) (by decide)))
  have F22 : Fld Z h16 a1 "com/example/stint/stint/core/SipHash" "v2" "J" (.long sv.2.2.1) := F9.other W16 (Or.inr (slot_ne (Or.inl (hw _ (List.mem_of_getElem? (i := 26) rfl))) (Or.inl (hw _ (List.mem_of_getElem? (i := 23) rfl))) (by decide) (t := .long) (t' := .long) (by decide) (by decide)))
  have F23 : Fld Z h16 a1 "com/example/stint/stint/core/SipHash" "v3" "J" (.long sv.2.2.2) := F10.other W16 (Or.inr (slot_ne (Or.inl (hw _ (List.mem_of_getElem? (i := 29) rfl))) (Or.inl (hw _ (List.mem_of_getElem? (i := 23) rfl))) (by decide) (t := .long) (t' := .long) (by decide) (by decide)))
  have K24 : Keep h0 h16 [a1] := K11.wr W16 (Or.inl (List.mem_of_getElem? (i := 0) rfl))
  obtain ⟨T25, X25, e25, st25⟩ := getF X16 hx hZ hown (host := "") (Or.inl (hw _ (List.mem_of_getElem? (i := 19) rfl))) Via.refl e16 F21 (g := (mkF m 33 #[.val (.ref a1)] [(.ref a1), (.ref a1)])) rfl rfl (hb hby d5_33)
  obtain ⟨_, _, ⟨T27, L27, kk27, n27⟩, -, X27, ⟨Lc27, hQ27, l27, y27, z27⟩, st27⟩ := Jvm.LawKit.callS X25 hx (y := (⟨"java/lang/Long", "rotateLeft", "(JI)J"⟩ : MethodName)) hown (mvT hZ (hw _ (List.mem_of_getElem? (i := 39) rfl))) (mvT hZ (hw _ (List.mem_of_getElem? (i := 40) rfl))) (mvT hZ (hw _ (List.mem_of_getElem? (i := 41) rfl))) (mvT hZ (hw _ (List.mem_of_getElem? (i := 42) rfl))) (by decide) (backOf (W := 1) (rm_rotl l Z a0 hw [] (sv.1 + sv.2.1) (32 : Int32) h16 n0 (Nat.le_trans Z0 K24.1)) hZ (hw _ (List.mem_of_getElem? (i := 42) rfl)) (hw _ (List.mem_of_getElem? (i := 41) rfl)) (by decide) (by decide)) (g := (mkF m 38 #[.val (.ref a1)] [(.int (32 : Int32)), (.long (sv.1 + sv.2.1)), (.ref a1)])) rfl (by rw [hml]; rfl) (argsL := [(.long (sv.1 + sv.2.1)), (.int (32 : Int32))]) (rest := [(.ref a1)]) (lenOf pd__JI_J rfl) rfl (by show 2 * 0 + _ ≤ _; exact Nat.le_of_eq rfl) (hb hby d5_38) (fun _ _ => ⟨rfl, e25, (by decide : 0 + 0 ≤ _), (by decide : 0 + 0 ≤ _)⟩)
  dsimp only [Pt.U, Pt.locs, Pt.cells, Pt.slots] at X27 l27 y27 z27 st27 hQ27
  subst l27 y27 z27
  obtain ⟨rfl, N27q, qr26⟩ := hQ27
  have N27 := Fr.app N16 N27q
  obtain ⟨T28, h28, X28, e28, W28, st28⟩ := putF X27 hx hZ hown (host := "") (Or.inl (hw _ (List.mem_of_getElem? (i := 19) rfl))) Via.refl qr26 F21 E18 (Or.inl (hw _ (List.mem_of_getElem? (i := 20) rfl))) (hw _ (List.mem_of_getElem? (i := 1) rfl)) (ty := .long) (by decide) rfl rfl (g := (mkF m 41 #[.val (.ref a1)] [(.long (own_rotl (sv.1 + sv.2.1) (32 : Int32))), (.ref a1)])) rfl rfl (hb hby d5_41)
  have N28 := Fr.snoc X28 N27 g_a1
  have F29 : Fld Z h28 a1 "com/example/stint/stint/core/SipHash" "v0" "J" (.long (own_rotl (sv.1 + sv.2.1) (32 : Int32))) := F21.same W28
  have E30 : Exa Z h28 a1 "com/example/stint/stint/core/SipHash" := E18.wr W28
  have F31 : Fld Z h28 a1 "com/example/stint/stint/core/SipHash" "k0" "J" (.long ka) := F19.other W28 (Or.inr (slot_ne (Or.inr (hw _ (List.mem_of_getElem? (i := 10) rfl))) (Or.inl (hw _ (List.mem_of_getElem? (i := 20) rfl))) (by decide) (t := .long) (t' := .long) (by decide) (by decide)))
  have F32 : Fld Z h28 a1 "com/example/stint/stint/core/SipHash" "k1" "J" (.long kb) := F20.other W28 (Or.inr (slot_ne (Or.inr (hw _ (List.mem_of_getElem? (i := 12) rfl))) (Or.inl (hw _ (List.mem_of_getElem? (i := 20) rfl))) (by decide) (t := .long) (t' := .long) (by decide) (by decide)))
  have F33 : Fld Z h28 a1 "com/example/stint/stint/core/SipHash" "v1" "J" (.long ((own_rotl sv.2.1 (13 : Int32)) ^^^ (sv.1 + sv.2.1))) := F17.other W28 (Or.inr (slot_ne (Or.inl (hw _ (List.mem_of_getElem? (i := 23) rfl))) (Or.inl (hw _ (List.mem_of_getElem? (i := 20) rfl))) (by decide) (t := .long) (t' := .long) (by decide) (by decide)))
  have F34 : Fld Z h28 a1 "com/example/stint/stint/core/SipHash" "v2" "J" (.long sv.2.2.1) := F22.other W28 (Or.inr (slot_ne (Or.inl (hw _ (List.mem_of_getElem? (i := 26) rfl))) (Or.inl (hw _ (List.mem_of_getElem? (i := 20) rfl))) (by decide) (t := .long) (t' := .long) (by decide) (by decide)))
  have F35 : Fld Z h28 a1 "com/example/stint/stint/core/SipHash" "v3" "J" (.long sv.2.2.2) := F23.other W28 (Or.inr (slot_ne (Or.inl (hw _ (List.mem_of_getElem? (i := 29) rfl))) (Or.inl (hw _ (List.mem_of_getElem? (i := 20) rfl))) (by decide) (t := .long) (t' := .long) (by decide) (by decide)))
  have K36 : Keep h0 h28 [a1] := K24.wr W28 (Or.inl (List.mem_of_getElem? (i := 0) rfl))
  obtain ⟨T37, X37, e37, st37⟩ := getF X28 hx hZ hown (host := "") (Or.inl (hw _ (List.mem_of_getElem? (i := 25) rfl))) Via.refl e28 F34 (g := (mkF m 46 #[.val (.ref a1)] [(.ref a1), (.ref a1)])) rfl rfl (hb hby d5_46)
  obtain ⟨T38, X38, e38, st38⟩ := getF X37 hx hZ hown (host := "") (Or.inl (hw _ (List.mem_of_getElem? (i := 28) rfl))) Via.refl e37 F35 (g := (mkF m 50 #[.val (.ref a1)] [(.ref a1), (.long sv.2.2.1), (.ref a1)])) rfl rfl (hb hby d5_50)
  obtain ⟨T39, h39, X39, e39, W39, st39⟩ := putF X38 hx hZ hown (host := "") (Or.inl (hw _ (List.mem_of_getElem? (i := 25) rfl))) Via.refl e38 F34 E30 (Or.inl (hw _ (List.mem_of_getElem? (i := 26) rfl))) (hw _ (List.mem_of_getElem? (i := 1) rfl)) (ty := .long) (by decide) rfl rfl (g := (mkF m 54 #[.val (.ref a1)] [(.long (sv.2.2.1 + sv.2.2.2)), (.ref a1)])) rfl rfl (hb hby d5_54)
  have N39 := Fr.snoc X39 N28 g_a1
  have F40 : Fld Z h39 a1 "com/example/stint/stint/core/SipHash" "v2" "J" (.long (sv.2.2.1 + sv.2.2.2)) := F34.same W39
  have E41 : Exa Z h39 a1 "com/example/stint/stint/core/SipHash" := E30.wr W39
  have F42 : Fld Z h39 a1 "com/example/stint/stint/core/SipHash" "k0" "J" (.long ka) := F31.other W39 (Or.inr (slot_ne (Or.inr (hw _ (List.mem_of_getElem? (i := 10) rfl))) (Or.inl (hw _ (List.mem_of_getElem? (i := 26) rfl))) (by decide) (t := .long) (t' := .long) (by decide) (by decide)))
  have F43 : Fld Z h39 a1 "com/example/stint/stint/core/SipHash" "k1" "J" (.long kb) := F32.other W39 (Or.inr (slot_ne (Or.inr (hw _ (List.mem_of_getElem? (i := 12) rfl))) (Or.inl (hw _ (List.mem_of_getElem? (i := 26) rfl))) (by decide) (t := .long) (t' := .long) (by decide) (by decide)))
  have F44 : Fld Z h39 a1 "com/example/stint/stint/core/SipHash" "v0" "J" (.long (own_rotl (sv.1 + sv.2.1) (32 : Int32))) := F29.other W39 (Or.inr (slot_ne (Or.inl (hw _ (List.mem_of_getElem? (i := 20) rfl))) (Or.inl (hw _ (List.mem_of_getElem? (i := 26) rfl))) (by decide) (t := .long) (t' := .long) (by decide) (by decide)))
  have F45 : Fld Z h39 a1 "com/example/stint/stint/core/SipHash" "v1" "J" (.long ((own_rotl sv.2.1 (13 : Int32)) ^^^ (sv.1 + sv.2.1))) := F33.other W39 (Or.inr (slot_ne (Or.inl (hw _ (List.mem_of_getElem? (i := 23) rfl))) (Or.inl (hw _ (List.mem_of_getElem? (i := 26) rfl))) (by decide) (t := .long) (t' := .long) (by decide) (by decide)))
  have F46 : Fld Z h39 a1 "com/example/stint/stint/core/SipHash" "v3" "J" (.long sv.2.2.2) := F35.other W39 (Or.inr (slot_ne (Or.inl (hw _ (List.mem_of_getElem? (i := 29) rfl))) (Or.inl (hw _ (List.mem_of_getElem? (i := 26) rfl))) (by decide) (t := .long) (t' := .long) (by decide) (by decide)))
  have K47 : Keep h0 h39 [a1] := K36.wr W39 (Or.inl (List.mem_of_getElem? (i := 0) rfl))
  obtain ⟨T48, X48, e48, st48⟩ := getF X39 hx hZ hown (host := "") (Or.inl (hw _ (List.mem_of_getElem? (i := 28) rfl))) Via.refl e39 F46 (g := (mkF m 59 #[.val (.ref a1)] [(.ref a1), (.ref a1)])) rfl rfl (hb hby d5_59)
  obtain ⟨_, _, ⟨T50, L50, kk50, n50⟩, -, X50, ⟨Lc50, hQ50, l50, y50, z50⟩, st50⟩ := Jvm.LawKit.callS X48 hx (y := (⟨"java/lang/Long", "rotateLeft", "(JI)J"⟩ : MethodName)) hown (mvT hZ (hw _ (List.mem_of_getElem? (i := 39) rfl))) (mvT hZ (hw _ (List.mem_of_getElem? (i := 40) rfl))) (mvT hZ (hw _ (List.mem_of_getElem? (i := 41) rfl))) (mvT hZ (hw _ (List.mem_of_getElem? (i := 42) rfl))) (by decide) (backOf (W := 1) (rm_rotl l Z a0 hw [] sv.2.2.2 (16 : Int32) h39 n0 (Nat.le_trans Z0 K47.1)) hZ (hw _ (List.mem_of_getElem? (i := 42) rfl)) (hw _ (List.mem_of_getElem? (i := 41) rfl)) (by decide) (by decide)) (g := (mkF m 64 #[.val (.ref a1)] [(.int (16 : Int32)), (.long sv.2.2.2), (.ref a1)])) rfl (by rw [hml]; rfl) (argsL := [(.long sv.2.2.2), (.int (16 : Int32))]) (rest := [(.ref a1)]) (lenOf pd__JI_J rfl) rfl (by show 2 * 0 + _ ≤ _; exact Nat.le_of_eq rfl) (hb hby d5_64) (fun _ _ => ⟨rfl, e48, (by decide : 0 + 0 ≤ _), (by decide : 0 + 0 ≤ _)⟩)
  dsimp only [Pt.U, Pt.locs, Pt.cells, Pt.slots] at X50 l50 y50 z50 st50 hQ50
  subst l50 y50 z50
  obtain ⟨rfl, N50q, qr49⟩ := hQ50
  have N50 := Fr.app N39 N50q
  obtain ⟨T51, X51, e51, st51⟩ := getF X50 hx hZ hown (host := "") (Or.inl (hw _ (List.mem_of_getElem? (i := 25) rfl))) Via.refl qr49 F40 (g := (mkF m 68 #[.val (.ref a1)] [(.ref a1), (.long (own_rotl sv.2.2.2 (16 : Int32))), (.ref a1)])) rfl rfl (hb hby d5_68)
  obtain ⟨T52, h52, X52, e52, W52, st52⟩ := putF X51 hx hZ hown (host := "") (Or.inl (hw _ (List.mem_of_getElem? (i := 28) rfl))) Via.refl e51 F46 E41 (Or.inl (hw _ (List.mem_of_getElem? (i := 29) rfl))) (hw _ (List.mem_of_getElem? (i := 1) rfl)) (ty := .long) (by decide) rfl rfl (g := (mkF m 72 #[.val (.ref a1)] [(.long ((own_rotl sv.2.2.2 (16 : Int32)) ^^^ (sv.2.2.1 + sv.2.2.2))), (.ref a1)])) rfl rfl (hb hby d5_72)
  have N52 := Fr.snoc X52 N50 g_a1
  have F53 : Fld Z h52 a1 "com/example/stint/stint/core/SipHash" "v3" "J" (.long ((own_rotl sv.2.2.2 (16 : Int32)) ^^^ (sv.2.2.1 + sv.2.2.2))) := F46.same W52
  have E54 : Exa Z h52 a1 "com/example/stint/stint/core/SipHash" := E41.wr W52
  have F55 : Fld Z h52 a1 "com/example/stint/stint/core/SipHash" "k0" "J" (.long ka) := F42.other W52 (Or.inr (slot_ne (Or.inr (hw _ (List.mem_of_getElem? (i := 10) rfl))) (Or.inl (hw _ (List.mem_of_getElem? (i := 29) rfl))) (by decide) (t := .long) (t' := .long) (by decide) (by decide)))
  have F56 : Fld Z h52 a1 "com/example/stint/stint/core/SipHash" "k1" "J" (.long kb) := F43.other W52 (Or.inr (slot_ne (Or.inr (hw _ (List.mem_of_getElem? (i := 12) rfl))) (Or.inl (hw _ (List.mem_of_getElem? (i := 29) rfl))) (by decide) (t := .long) (t' := .long) (by decide) (by decide)))
  have F57 : Fld Z h52 a1 "com/example/stint/stint/core/SipHash" "v0" "J" (.long (own_rotl (sv.1 + sv.2.1) (32 : Int32))) := F44.other W52 (Or.inr (slot_ne (Or.inl (hw _ (List.mem_of_getElem? (i := 20) rfl))) (Or.inl (hw _ (List.mem_of_getElem? (i := 29) rfl))) (by decide) (t := .long) (t' := .long) (by decide) (by decide)))
  have F58 : Fld Z h52 a1 "com/example/stint/stint/core/SipHash" "v1" "J" (.long ((own_rotl sv.2.1 (13 : Int32)) ^^^ (sv.1 + sv.2.1))) := F45.other W52 (Or.inr (slot_ne (Or.inl (hw _ (List.mem_of_getElem? (i := 23) rfl))) (Or.inl (hw _ (List.mem_of_getElem? (i := 29) rfl))) (by decide) (t := .long) (t' := .long) (by decide) (by decide)))
  have F59 : Fld Z h52 a1 "com/example/stint/stint/core/SipHash" "v2" "J" (.long (sv.2.2.1 + sv.2.2.2)) := F40.other W52 (Or.inr (slot_ne (Or.inl (hw _ (List.mem_of_getElem? (i := 26) rfl))) (Or.inl (hw _ (List.mem_of_getElem? (i := 29) rfl))) (by decide) (t := .long) (t' := .long) (by decide) (by decide)))
  have K60 : Keep h0 h52 [a1] := K47.wr W52 (Or.inl (List.mem_of_getElem? (i := 0) rfl))
  obtain ⟨T61, X61, e61, st61⟩ := getF X52 hx hZ hown (host := "") (Or.inl (hw _ (List.mem_of_getElem? (i := 19) rfl))) Via.refl e52 F57 (g := (mkF m 77 #[.val (.ref a1)] [(.ref a1), (.ref a1)])) rfl rfl (hb hby d5_77)
  obtain ⟨T62, X62, e62, st62⟩ := getF X61 hx hZ hown (host := "") (Or.inl (hw _ (List.mem_of_getElem? (i := 28) rfl))) Via.refl e61 F53 (g := (mkF m 81 #[.val (.ref a1)] [(.ref a1), (.long (own_rotl (sv.1 + sv.2.1) (32 : Int32))), (.ref a1)])) rfl rfl (hb hby d5_81)
  obtain ⟨T63, h63, X63, e63, W63, st63⟩ := putF X62 hx hZ hown (host := "") (Or.inl (hw _ (List.mem_of_getElem? (i := 19) rfl))) Via.refl e62 F57 E54 (Or.inl (hw _ (List.mem_of_getElem? (i := 20) rfl))) (hw _ (List.mem_of_getElem? (i := 1) rfl)) (ty := .long) (by decide) rfl rfl (g := (mkF m 85 #[.val (.ref a1)] [(.long ((own_rotl (sv.1 + sv.2.1) (32 : Int32)) + ((own_rotl sv.2.2.2 (16 : Int32)) ^^^ (sv.2.2.1 + sv.2.2.2)))), (.ref a1)])) rfl rfl (hb hby d5_85)
  have N63 := Fr.snoc X63 N52 g_a1
  have F64 : Fld Z h63 a1 "com/example/stint/stint/core/SipHash" "v0" "J" (.long ((own_rotl (sv.1 + sv.2.1) (32 : Int32)) + ((own_rotl sv.2.2.2 (16 : Int32)) ^^^ (sv.2.2.1 + sv.2.2.2)))) := F57.same W63
  have E65 : Exa Z h63 a1 "com/example/stint/stint/core/SipHash" := E54.wr W63
  have F66 : Fld Z h63 a1 "com/example/stint/stint/core/SipHash" "k0" "J" (.long ka) := F55.other W63 (Or.inr (slot_ne (Or.inr (hw _ (List.mem_of_getElem? (i := 10) rfl))) (Or.inl (hw _ (List.mem_of_getElem? (i := 20) rfl))) (by decide) (t := .long) (t' := .long) (by decide) (by decide)))
  have F67 : Fld Z h63 a1 "com/example/stint/stint/core/SipHash" "k1" "J" (.long kb) := F56.other W63 (Or.inr (slot_ne (Or.inr (hw _ (List.mem_of_getElem? (i := 12) rfl))) (Or.inl (hw _ (List.mem_of_getElem? (i := 20) rfl))) (by decide) (t := .long) (t' := .long) (by decide) (by decide)))
  have F68 : Fld Z h63 a1 "com/example/stint/stint/core/SipHash" "v1" "J" (.long ((own_rotl sv.2.1 (13 : Int32)) ^^^ (sv.1 + sv.2.1))) := F58.other W63 (Or.inr (slot_ne (Or.inl (hw _ (List.mem_of_getElem? (i := 23) rfl))) (Or.inl (hw _ (List.mem_of_getElem? (i := 20) rfl))) (by decide) (t := .long) (t' := .long) (by decide) (by decide)))
  have F69 : Fld Z h63 a1 "com/example/stint/stint/core/SipHash" "v2" "J" (.long (sv.2.2.1 + sv.2.2.2)) := F59.other W63 (Or.inr (slot_ne (Or.inl (hw _ (List.mem_of_getElem? (i := 26) rfl))) (Or.inl (hw _ (List.mem_of_getElem? (i := 20) rfl))) (by decide) (t := .long) (t' := .long) (by decide) (by decide)))
  have F70 : Fld Z h63 a1 "com/example/stint/stint/core/SipHash" "v3" "J" (.long ((own_rotl sv.2.2.2 (16 : Int32)) ^^^ (sv.2.2.1 + sv.2.2.2))) := F53.other W63 (Or.inr (slot_ne (Or.inl (hw _ (List.mem_of_getElem? (i := 29) rfl))) (Or.inl (hw _ (List.mem_of_getElem? (i := 20) rfl))) (by decide) (t := .long) (t' := .long) (by decide) (by decide)))
  have K71 : Keep h0 h63 [a1] := K60.wr W63 (Or.inl (List.mem_of_getElem? (i := 0) rfl))
  obtain ⟨T72, X72, e72, st72⟩ := getF X63 hx hZ hown (host := "") (Or.inl (hw _ (List.mem_of_getElem? (i := 28) rfl))) Via.refl e63 F70 (g := (mkF m 90 #[.val (.ref a1)] [(.ref a1), (.ref a1)])) rfl rfl (hb hby d5_90)
  obtain ⟨_, _, ⟨T74, L74, kk74, n74⟩, -, X74, ⟨Lc74, hQ74, l74, y74, z74⟩, st74⟩ := Jvm.LawKit.callS X72 hx (y := (⟨"java/lang/Long", "rotateLeft", "(JI)J"⟩ : MethodName)) hown (mvT hZ (hw _ (List.mem_of_getElem? (i := 39) rfl))) (mvT hZ (hw _ (List.mem_of_getElem? (i := 40) rfl))) (mvT hZ (hw _ (List.mem_of_getElem? (i := 41) rfl))) (mvT hZ (hw _ (List.mem_of_getElem? (i := 42) rfl))) (by decide) (backOf (W := 1) (rm_rotl l Z a0 hw [] ((own_rotl sv.2.2.2 (16 : Int32)) ^^^ (sv.2.2.1 + sv.2.2.2)) (21 : Int32) h63 n0 (Nat.le_trans Z0 K71.1)) hZ (hw _ (List.mem_of_getElem? (i := 42) rfl)) (hw _ (List.mem_of_getElem? (i := 41) rfl)) (by decide) (by decide)) (g := (mkF m 95 #[.val (.ref a1)] [(.int (21 : Int32)), (.long ((own_rotl sv.2.2.2 (16 : Int32)) ^^^ (sv.2.2.1 + sv.2.2.2))), (.ref a1)])) rfl (by rw [hml]; rfl) (argsL := [(.long ((own_rotl sv.2.2.2 (16 : Int32)) ^^^ (sv.2.2.1 + sv.2.2.2))), (.int (21 : Int32))]) (rest := [(.ref a1)]) (lenOf pd__JI_J rfl) rfl (by show 2 * 0 + _ ≤ _; exact Nat.le_of_eq rfl) (hb hby d5_95) (fun _ _ => ⟨rfl, e72, (by decide : 0 + 0 ≤ _), (by decide : 0 + 0 ≤ _)⟩)
  dsimp only [Pt.U, Pt.locs, Pt.cells, Pt.slots] at X74 l74 y74 z74 st74 hQ74
  subst l74 y74 z74
  obtain ⟨rfl, N74q, qr73⟩ := hQ74
  have N74 := Fr.app N63 N74q
  obtain ⟨T75, X75, e75, st75⟩ := getF X74 hx hZ hown (host := "") (Or.inl (hw _ (List.mem_of_getElem? (i := 19) rfl))) Via.refl qr73 F64 (g := (mkF m 99 #[.val (.ref a1)] [(.ref a1), (.long (own_rotl ((own_rotl sv.2.2.2 (16 : Int32)) ^^^ (sv.2.2.1 + sv.2.2.2)) (21 : Int32))), (.ref a1)])) rfl rfl (hb hby d5_99)
  obtain ⟨T76, h76, X76, e76, W76, st76⟩ := putF X75 hx hZ hown (host := "") (Or.inl (hw _ (List.mem_of_getElem? (i := 28) rfl))) Via.refl e75 F70 E65 (Or.inl (hw _ (List.mem_of_getElem? (i := 29) rfl))) (hw _ (List.mem_of_getElem? (i := 1) rfl)) (ty := .long) (by decide) rfl rfl (g := (mkF m 103 #[.val (.ref a1)] [(.long ((own_rotl ((own_rotl sv.2.2.2 (16 : Int32)) ^^^ (sv.2.2.1 + sv.2.2.2)) (21 : Int32)) ^^^ ((own_rotl (sv.1 + sv.2.1) (32 : Int32)) + ((own_rotl sv.2.2.2 (16 : Int32)) ^^^ (sv.2.2.1 + sv.2.2.2))))), (.ref a1)])) rfl rfl (hb hby d5_103)
  have N76 := Fr.snoc X76 N74 g_a1
  have F77 : Fld Z h76 a1 "com/example/stint/stint/core/SipHash" "v3" "J" (.long ((own_rotl ((own_rotl sv.2.2.2 (16 : Int32)) ^^^ (sv.2.2.1 + sv.2.2.2)) (21 : Int32)) ^^^ ((own_rotl (sv.1 + sv.2.1) (32 : Int32)) + ((own_rotl sv.2.2.2 (16 : Int32)) ^^^ (sv.2.2.1 + sv.2.2.2))))) := F70.same W76
  have E78 : Exa Z h76 a1 "com/example/stint/stint/core/SipHash" := E65.wr W76
  have F79 : Fld Z h76 a1 "com/example/stint/stint/core/SipHash" "k0" "J" (.long ka) := F66.other W76 (Or.inr (slot_ne (Or.inr (hw _ (List.mem_of_getElem? (i := 10) rfl))) (Or.inl (hw _ (List.mem_of_getElem? (i := 29) rfl))) (by decide) (t := .long) (t' := .long) (by decide) (by decide)))
  have F80 : Fld Z h76 a1 "com/example/stint/stint/core/SipHash" "k1" "J" (.long kb) := F67.other W76 (Or.inr (slot_ne (Or.inr (hw _ (List.mem_of_getElem? (i := 12) rfl))) (Or.inl (hw _ (List.mem_of_getElem? (i := 29) rfl))) (by decide) (t := .long) (t' := .long) (by decide) (by decide)))
  have F81 : Fld Z h76 a1 "com/example/stint/stint/core/SipHash" "v0" "J" (.long ((own_rotl (sv.1 + sv.2.1) (32 : Int32)) + ((own_rotl sv.2.2.2 (16 : Int32)) ^^^ (sv.2.2.1 + sv.2.2.2)))) := F64.other W76 (Or.inr (slot_ne (Or.inl (hw _ (List.mem_of_getElem? (i := 20) rfl))) (Or.inl (hw _ (List.mem_of_getElem? (i := 29) rfl))) (by decide) (t := .long) (t' := .long) (by decide) (by decide)))
  have F82 : Fld Z h76 a1 "com/example/stint/stint/core/SipHash" "v1" "J" (.long ((own_rotl sv.2.1 (13 : Int32)) ^^^ (sv.1 + sv.2.1))) := F68.other W76 (Or.inr (slot_ne (Or.inl (hw _ (List.mem_of_getElem? (i := 23) rfl))) (Or.inl (hw _ (List.mem_of_getElem? (i := 29) rfl))) (by decide) (t := .long) (t' := .long) (by decide) (by decide)))
  have F83 : Fld Z h76 a1 "com/example/stint/stint/core/SipHash" "v2" "J" (.long (sv.2.2.1 + sv.2.2.2)) := F69.other W76 (Or.inr (slot_ne (Or.inl (hw _ (List.mem_of_getElem? (i := 26) rfl))) (Or.inl (hw _ (List.mem_of_getElem? (i := 29) rfl))) (by decide) (t := .long) (t' := .long) (by decide) (by decide)))
  have K84 : Keep h0 h76 [a1] := K71.wr W76 (Or.inl (List.mem_of_getElem? (i := 0) rfl))
  obtain ⟨T85, X85, e85, st85⟩ := getF X76 hx hZ hown (host := "") (Or.inl (hw _ (List.mem_of_getElem? (i := 25) rfl))) Via.refl e76 F83 (g := (mkF m 108 #[.val (.ref a1)] [(.ref a1), (.ref a1)])) rfl rfl (hb hby d5_108)
  obtain ⟨T86, X86, e86, st86⟩ := getF X85 hx hZ hown (host := "") (Or.inl (hw _ (List.mem_of_getElem? (i := 22) rfl))) Via.refl e85 F82 (g := (mkF m 112 #[.val (.ref a1)] [(.ref a1), (.long (sv.2.2.1 + sv.2.2.2)), (.ref a1)])) rfl rfl (hb hby d5_112)
  obtain ⟨T87, h87, X87, e87, W87, st87⟩ := putF X86 hx hZ hown (host := "") (Or.inl (hw _ (List.mem_of_getElem? (i := 25) rfl))) Via.refl e86 F83 E78 (Or.inl (hw _ (List.mem_of_getElem? (i := 26) rfl))) (hw _ (List.mem_of_getElem? (i := 1) rfl)) (ty := .long) (by decide) rfl rfl (g := (mkF m 116 #[.val (.ref a1)] [(.long ((sv.2.2.1 + sv.2.2.2) + ((own_rotl sv.2.1 (13 : Int32)) ^^^ (sv.1 + sv.2.1)))), (.ref a1)])) rfl rfl (hb hby d5_116)
  have N87 := Fr.snoc X87 N76 g_a1
  have F88 : Fld Z h87 a1 "com/example/stint/stint/core/SipHash" "v2" "J" (.long ((sv.2.2.1 + sv.2.2.2) + ((own_rotl sv.2.1 (13 : Int32)) ^^^ (sv.1 + sv.2.1)))) := F83.same W87
  have E89 : Exa Z h87 a1 "com/example/stint/stint/core/SipHash" := E78.wr W87
  have F90 : Fld Z h87 a1 "com/example/stint/stint/core/SipHash" "k0" "J" (.long ka) := F79.other W87 (Or.inr (slot_ne (Or.inr (hw _ (List.mem_of_getElem? (i := 10) rfl))) (Or.inl (hw _ (List.mem_of_getElem? (i := 26) rfl))) (by decide) (t := .long) (t' := .long) (by decide) (by decide)))
  have F91 : Fld Z h87 a1 "com/example/stint/stint/core/SipHash" "k1" "J" (.long kb) := F80.other W87 (Or.inr (slot_ne (Or.inr (hw _ (List.mem_of_getElem? (i := 12) rfl))) (Or.inl (hw _ (List.mem_of_getElem? (i := 26) rfl))) (by decide) (t := .long) (t' := .long) (by decide) (by decide)))
  have F92 : Fld Z h87 a1 "com/example/stint/stint/core/SipHash" "v0" "J" (.long ((own_rotl (sv.1 + sv.2.1) (32 : Int32)) + ((own_rotl sv.2.2.2 (16 : Int32)) ^^^ (sv.2.2.1 + sv.2.2.2)))) := F81.other W87 (Or.inr (slot_ne (Or.inl (hw _ (List.mem_of_getElem? (i := 20) rfl))) (Or.inl (hw _ (List.mem_of_getElem? (i := 26) rfl))) (by decide) (t := .long) (t' := .long) (by decide) (by decide)))
  have F93 : Fld Z h87 a1 "com/example/stint/stint/core/SipHash" "v1" "J" (.long ((own_rotl sv.2.1 (13 : Int32)) ^^^ (sv.1 + sv.2.1))) := F82.other W87 (Or.inr (slot_ne (Or.inl (hw _ (List.mem_of_getElem? (i := 23) rfl))) (Or.inl (hw _ (List.mem_of_getElem? (i := 26) rfl))) (by decide) (t := .long) (t' := .long) (by decide) (by decide)))
  have F94 : Fld Z h87 a1 "com/example/stint/stint/core/SipHash" "v3" "J" (.long ((own_rotl ((own_rotl sv.2.2.2 (16 : Int32)) ^^^ (sv.2.2.1 + sv.2.2.2)) (21 : Int32)) ^^^ ((own_rotl (sv.1 + sv.2.1) (32 : Int32)) + ((own_rotl sv.2.2.2 (16 : Int32)) ^^^ (sv.2.2.1 + sv.2.2.2))))) := F77.other W87 (Or.inr (slot_ne (Or.inl (hw _ (List.mem_of_getElem? (i := 29) rfl))) (Or.inl (hw _ (List.mem_of_getElem? (i := 26) rfl))) (by decide) (t := .long) (t' := .long) (by decide) (by decide)))
  have K95 : Keep h0 h87 [a1] := K84.wr W87 (Or.inl (List.mem_of_getElem? (i := 0) rfl))
  obtain ⟨T96, X96, e96, st96⟩ := getF X87 hx hZ hown (host := "") (Or.inl (hw _ (List.mem_of_getElem? (i := 22) rfl))) Via.refl e87 F93 (g := (mkF m 121 #[.val (.ref a1)] [(.ref a1), (.ref a1)])) rfl rfl (hb hby d5_121)
  obtain ⟨_, _, ⟨T98, L98, kk98, n98⟩, -, X98, ⟨Lc98, hQ98, l98, y98, z98⟩, st98⟩ := Jvm.LawKit.callS X96 hx (y := (⟨"java/lang/Long", "rotateLeft", "(JI)J"⟩ : MethodName)) hown (mvT hZ (hw _ (List.mem_of_getElem? (i := 39) rfl))) (mvT hZ (hw _ (List.mem_of_getElem? (i := 40) rfl))) (mvT hZ (hw _ (List.mem_of_getElem? (i := 41) rfl))) (mvT hZ (hw _ (List.mem_of_getElem? (i := 42) rfl))) (by decide) (backOf (W := 1) (rm_rotl l Z a0 hw [] ((own_rotl sv.2.1 (13 : Int32)) ^^^ (sv.1 + sv.2.1)) (17 : Int32) h87 n0 (Nat.le_trans Z0 K95.1)) hZ (hw _ (List.mem_of_getElem? (i := 42) rfl)) (hw _ (List.mem_of_getElem? (i := 41) rfl)) (by decide) (by decide)) (g := (mkF m 126 #[.val (.ref a1)] [(.int (17 : Int32)), (.long ((own_rotl sv.2.1 (13 : Int32)) ^^^ (sv.1 + sv.2.1))), (.ref a1)])) rfl (by rw [hml]; rfl) (argsL := [(.long ((own_rotl sv.2.1 (13 : Int32)) ^^^ (sv.1 + sv.2.1))), (.int (17 : Int32))]) (rest := [(.ref a1)]) (lenOf pd__JI_J rfl) rfl (by show 2 * 0 + _ ≤ _; exact Nat.le_of_eq rfl) (hb hby d5_126) (fun _ _ => ⟨rfl, e96, (by decide : 0 + 0 ≤ _), (by decide : 0 + 0 ≤ _)⟩)
  dsimp only [Pt.U, Pt.locs, Pt.cells, Pt.slots] at X98 l98 y98 z98 st98 hQ98
  subst l98 y98 z98
  obtain ⟨rfl, N98q, qr97⟩ := hQ98
  have N98 := Fr.app N87 N98q
  obtain ⟨T99, X99, e99, st99⟩ := getF X98 hx hZ hown (host := "") (Or.inl (hw _ (List.mem_of_getElem? (i := 25) rfl))) Via.refl qr97 F88 (g := (mkF m 130 #[.val (.ref a1)] [(.ref a1), (.long (own_rotl ((own_rotl sv.2.1 (13 : Int32)) ^^^ (sv.1 + sv.2.1)) (17 : Int32))), (.ref a1)])) rfl rfl (hb hby d5_130)
  obtain ⟨T100, h100, X100, e100, W100, st100⟩ := putF X99 hx hZ hown (host := "") (Or.inl (hw _ (List.mem_of_getElem? (i := 22) rfl))) Via.refl e99 F93 E89 (Or.inl (hw _ (List.mem_of_getElem? (i := 23) rfl))) (hw _ (List.mem_of_getElem? (i := 1) rfl)) (ty := .long) (by decide) rfl rfl (g := (mkF m 134 #[.val (.ref a1)] [(.long ((own_rotl ((own_rotl sv.2.1 (13 : Int32)) ^^^ (sv.1 + sv.2.1)) (17 : Int32)) ^^^ ((sv.2.2.1 + sv.2.2.2) + ((own_rotl sv.2.1 (13 : Int32)) ^^^ (sv.1 + sv.2.1))))), (.ref a1)])) rfl rfl (hb hby d5_134)
  have N100 := Fr.snoc X100 N98 g_a1
  have F101 : Fld Z h100 a1 "com/example/stint/stint/core/SipHash" "v1" "J" (.long ((own_rotl ((own_rotl sv.2.1 (13 : Int32)) ^^^ (sv.1 + sv.2.1)) (17 : Int32)) ^^^ ((sv.2.2.1 + sv.2.2.2) + ((own_rotl sv.2.1 (13 : Int32)) ^^^ (sv.1 + sv.2.1))))) := F93.same W100
  have E102 : Exa Z h100 a1 "com/example/stint/stint/core/SipHash" := E89.wr W100
  have F103 : Fld Z h100 a1 "com/example/stint/stint/core/SipHash" "k0" "J" (.long ka) := F90.other W100 (Or.inr (slot_ne (Or.inr (hw _ (List.mem_of_getElem? (i := 10) rfl))) (Or.inl (hw _ (List.mem_of_getElem? (i := 23) rfl))) (by decide) (t := .long) (t' := .long) (by decide) (by decide)))
  have F104 : Fld Z h100 a1 "com/example/stint/stint/core/SipHash" "k1" "J" (.long kb) := F91.other W100 (Or.inr (slot_ne (Or.inr (hw _ (List.mem_of_getElem? (i := 12) rfl))) (Or.inl (hw _ (List.mem_of_getElem? (i := 23) rfl))) (by decide) (t := .long) (t' := .long) (by decide) (by decide)))
  have F105 : Fld Z h100 a1 "com/example/stint/stint/core/SipHash" "v0" "J" (.long ((own_rotl (sv.1 + sv.2.1) (32 : Int32)) + ((own_rotl sv.2.2.2 (16 : Int32)) ^^^ (sv.2.2.1 + sv.2.2.2)))) := F92.other W100 (Or.inr (slot_ne (Or.inl (hw _ (List.mem_of_getElem? (i := 20) rfl))) (Or.inl (hw _ (List.mem_of_getElem? (i := 23) rfl))) (by decide) (t := .long) (t' := .long) (by decide) (by decide)))
  have F106 : Fld Z h100 a1 "com/example/stint/stint/core/SipHash" "v2" "J" (.long ((sv.2.2.1 + sv.2.2.2) + ((own_rotl sv.2.1 (13 : Int32)) ^^^ (sv.1 + sv.2.1)))) := F88.other W100 (Or.inr (slot_ne (Or.inl (hw _ (List.mem_of_getElem? (i := 26) rfl))) (Or.inl (hw _ (List.mem_of_getElem? (i := 23) rfl))) (by decide) (t := .long) (t' := .long) (by decide) (by decide)))
  have F107 : Fld Z h100 a1 "com/example/stint/stint/core/SipHash" "v3" "J" (.long ((own_rotl ((own_rotl sv.2.2.2 (16 : Int32)) ^^^ (sv.2.2.1 + sv.2.2.2)) (21 : Int32)) ^^^ ((own_rotl (sv.1 + sv.2.1) (32 : Int32)) + ((own_rotl sv.2.2.2 (16 : Int32)) ^^^ (sv.2.2.1 + sv.2.2.2))))) := F94.other W100 (Or.inr (slot_ne (Or.inl (hw _ (List.mem_of_getElem? (i := 29) rfl))) (Or.inl (hw _ (List.mem_of_getElem? (i := 23) rfl))) (by decide) (t := .long) (t' := .long) (by decide) (by decide)))
  have K108 : Keep h0 h100 [a1] := K95.wr W100 (Or.inl (List.mem_of_getElem? (i := 0) rfl))
  obtain ⟨T109, X109, e109, st109⟩ := getF X100 hx hZ hown (host := "") (Or.inl (hw _ (List.mem_of_getElem? (i := 25) rfl))) Via.refl e100 F106 (g := (mkF m 139 #[.val (.ref a1)] [(.ref a1), (.ref a1)])) rfl rfl (hb hby d5_139)
  obtain ⟨_, _, ⟨T111, L111, kk111, n111⟩, -, X111, ⟨Lc111, hQ111, l111, y111, z111⟩, st111⟩ := Jvm.LawKit.callS X109 hx (y := (⟨"java/lang/Long", "rotateLeft", "(JI)J"⟩ : MethodName)) hown (mvT hZ (hw _ (List.mem_of_getElem? (i := 39) rfl))) (mvT hZ (hw _ (List.mem_of_getElem? (i := 40) rfl))) (mvT hZ (hw _ (List.mem_of_getElem? (i := 41) rfl))) (mvT hZ (hw _ (List.mem_of_getElem? (i := 42) rfl))) (by decide) (backOf (W := 1) (rm_rotl l Z a0 hw [] ((sv.2.2.1 + sv.2.2.2) + ((own_rotl sv.2.1 (13 : Int32)) ^^^ (sv.1 + sv.2.1))) (32 : Int32) h100 n0 (Nat.le_trans Z0 K108.1)) hZ (hw _ (List.mem_of_getElem? (i := 42) rfl)) (hw _ (List.mem_of_getElem? (i := 41) rfl)) (by decide) (by decide)) (g := (mkF m 144 #[.val (.ref a1)] [(.int (32 : Int32)), (.long ((sv.2.2.1 + sv.2.2.2) + ((own_rotl sv.2.1 (13 : Int32)) ^^^ (sv.1 + sv.2.1)))), (.ref a1)])) rfl (by rw [hml]; rfl) (argsL := [(.long ((sv.2.2.1 + sv.2.2.2) + ((own_rotl sv.2.1 (13 : Int32)) ^^^ (sv.1 + sv.2.1)))), (.int (32 : Int32))]) (rest := [(.ref a1)]) (lenOf pd__JI_J rfl) rfl (by show 2 * 0 + _ ≤ _; exact Nat.le_of_eq rfl) (hb hby d5_144) (fun _ _ => ⟨rfl, e109, (by decide : 0 + 0 ≤ _), (by decide : 0 + 0 ≤ _)⟩)
  dsimp only [Pt.U, Pt.locs, Pt.cells, Pt.slots] at X111 l111 y111 z111 st111 hQ111
  subst l111 y111 z111
  obtain ⟨rfl, N111q, qr110⟩ := hQ111
  have N111 := Fr.app N100 N111q
  obtain ⟨T112, h112, X112, e112, W112, st112⟩ := putF X111 hx hZ hown (host := "") (Or.inl (hw _ (List.mem_of_getElem? (i := 25) rfl))) Via.refl qr110 F106 E102 (Or.inl (hw _ (List.mem_of_getElem? (i := 26) rfl))) (hw _ (List.mem_of_getElem? (i := 1) rfl)) (ty := .long) (by decide) rfl rfl (g := (mkF m 147 #[.val (.ref a1)] [(.long (own_rotl ((sv.2.2.1 + sv.2.2.2) + ((own_rotl sv.2.1 (13 : Int32)) ^^^ (sv.1 + sv.2.1))) (32 : Int32))), (.ref a1)])) rfl rfl (hb hby d5_147)
  have N112 := Fr.snoc X112 N111 g_a1
  have F113 : Fld Z h112 a1 "com/example/stint/stint/core/SipHash" "v2" "J" (.long (own_rotl ((sv.2.2.1 + sv.2.2.2) + ((own_rotl sv.2.1 (13 : Int32)) ^^^ (sv.1 + sv.2.1))) (32 : Int32))) := F106.same W112
  have E114 : Exa Z h112 a1 "com/example/stint/stint/core/SipHash" := E102.wr W112
  have F115 : Fld Z h112 a1 "com/example/stint/stint/core/SipHash" "k0" "J" (.long ka) := F103.other W112 (Or.inr (slot_ne (Or.inr (hw _ (List.mem_of_getElem? (i := 10) rfl))) (Or.inl (hw _ (List.mem_of_getElem? (i := 26) rfl))) (by decide) (t := .long) (t' := .long) (by decide) (by decide)))
  have F116 : Fld Z h112 a1 "com/example/stint/stint/core/SipHash" "k1" "J" (.long kb) := F104.other W112 (Or.inr (slot_ne (Or.inr (hw _ (List.mem_of_getElem? (i := 12) rfl))) (Or.inl (hw _ (List.mem_of_getElem? (i := 26) rfl))) (by decide) (t := .long) (t' := .long) (by decide) (by decide)))
  have F117 : Fld Z h112 a1 "com/example/stint/stint/core/SipHash" "v0" "J" (.long ((own_rotl (sv.1 + sv.2.1) (32 : Int32)) + ((own_rotl sv.2.2.2 (16 : Int32)) ^^^ (sv.2.2.1 + sv.2.2.2)))) := F105.other W112 (Or.inr (slot_ne (Or.inl (hw _ (List.mem_of_getElem? (i := 20) rfl))) (Or.inl (hw _ (List.mem_of_getElem? (i := 26) rfl))) (by decide) (t := .long) (t' := .long) (by decide) (by decide)))
  have F118 : Fld Z h112 a1 "com/example/stint/stint/core/SipHash" "v1" "J" (.long ((own_rotl ((own_rotl sv.2.1 (13 : Int32)) ^^^ (sv.1 + sv.2.1)) (17 : Int32)) ^^^ ((sv.2.2.1 + sv.2.2.2) + ((own_rotl sv.2.1 (13 : Int32)) ^^^ (sv.1 + sv.2.1))))) := F101.other W112 (Or.inr (slot_ne (Or.inl (hw _ (List.mem_of_getElem? (i := 23) rfl))) (Or.inl (hw _ (List.mem_of_getElem? (i := 26) rfl))) (by decide) (t := .long) (t' := .long) (by decide) (by decide)))
  have F119 : Fld Z h112 a1 "com/example/stint/stint/core/SipHash" "v3" "J" (.long ((own_rotl ((own_rotl sv.2.2.2 (16 : Int32)) ^^^ (sv.2.2.1 + sv.2.2.2)) (21 : Int32)) ^^^ ((own_rotl (sv.1 + sv.2.1) (32 : Int32)) + ((own_rotl sv.2.2.2 (16 : Int32)) ^^^ (sv.2.2.1 + sv.2.2.2))))) := F107.other W112 (Or.inr (slot_ne (Or.inl (hw _ (List.mem_of_getElem? (i := 29) rfl))) (Or.inl (hw _ (List.mem_of_getElem? (i := 26) rfl))) (by decide) (t := .long) (t' := .long) (by decide) (by decide)))
  have K120 : Keep h0 h112 [a1] := K108.wr W112 (Or.inl (List.mem_of_getElem? (i := 0) rfl))
  have k122 : ∀ t, Steps p.tables e below (T112.setTop (mkF m 150 #[.val (.ref a1)] [])) t → Steps p.tables e below (s₁.setTop (entryFrame m #[(.ref a1)] 1)) t := fun t k => k0 t (by
    show Steps p.tables e below (s₁.setTop (mkF m 0 #[.val (.ref a1)] [])) _
    refine XS.aloadN X0.here hx rfl (hb hby d5_0) rfl rfl ?_
    show Steps p.tables e below (s₁.setTop (mkF m 1 #[.val (.ref a1)] [(.ref a1)])) _
    refine XS.dup X0.here hx rfl (hb hby d5_1) rfl rfl ?_
    show Steps p.tables e below (s₁.setTop (mkF m 2 #[.val (.ref a1)] [(.ref a1), (.ref a1)])) _
    refine st1 _ ?_
    show Steps p.tables e below (T1.setTop (mkF m 5 #[.val (.ref a1)] [(.long sv.1), (.ref a1)])) _
    refine XS.aloadN X1.here hx rfl (hb hby d5_5) rfl rfl ?_
    show Steps p.tables e below (T1.setTop (mkF m 6 #[.val (.ref a1)] [(.ref a1), (.long sv.1), (.ref a1)])) _
    refine st2 _ ?_
    show Steps p.tables e below (T2.setTop (mkF m 9 #[.val (.ref a1)] [(.long sv.2.1), (.long sv.1), (.ref a1)])) _
    refine XS.ladd X2.here hx rfl (hb hby d5_9) rfl ?_
    show Steps p.tables e below (T2.setTop (mkF m 10 #[.val (.ref a1)] [(.long (sv.1 + sv.2.1)), (.ref a1)])) _
    refine st3 _ ?_
    show Steps p.tables e below (T3.setTop (mkF m 13 #[.val (.ref a1)] [])) _
    refine XS.aloadN X3.here hx rfl (hb hby d5_13) rfl rfl ?_
    show Steps p.tables e below (T3.setTop (mkF m 14 #[.val (.ref a1)] [(.ref a1)])) _
    refine XS.aloadN X3.here hx rfl (hb hby d5_14) rfl rfl ?_
    show Steps p.tables e below (T3.setTop (mkF m 15 #[.val (.ref a1)] [(.ref a1), (.ref a1)])) _
    refine st12 _ ?_
    show Steps p.tables e below (T12.setTop (mkF m 18 #[.val (.ref a1)] [(.long sv.2.1), (.ref a1)])) _
    refine XS.bipush X12.here hx rfl (hb hby d5_18) ?_
    show Steps p.tables e below (T12.setTop (mkF m 20 #[.val (.ref a1)] [(.int (13 : Int32)), (.long sv.2.1), (.ref a1)])) _
    refine st14 _ ?_
    show Steps p.tables e below (T14.setTop (mkF m 23 #[.val (.ref a1)] [(.long (own_rotl sv.2.1 (13 : Int32))), (.ref a1)])) _
    refine XS.aloadN X14.here hx rfl (hb hby d5_23) rfl rfl ?_
    show Steps p.tables e below (T14.setTop (mkF m 24 #[.val (.ref a1)] [(.ref a1), (.long (own_rotl sv.2.1 (13 : Int32))), (.ref a1)])) _
    refine st15 _ ?_
    show Steps p.tables e below (T15.setTop (mkF m 27 #[.val (.ref a1)] [(.long (sv.1 + sv.2.1)), (.long (own_rotl sv.2.1 (13 : Int32))), (.ref a1)])) _
    refine XS.lxor X15.here hx rfl (hb hby d5_27) rfl ?_
    show Steps p.tables e below (T15.setTop (mkF m 28 #[.val (.ref a1)] [(.long ((own_rotl sv.2.1 (13 : Int32)) ^^^ (sv.1 + sv.2.1))), (.ref a1)])) _
    refine st16 _ ?_
    show Steps p.tables e below (T16.setTop (mkF m 31 #[.val (.ref a1)] [])) _
    refine XS.aloadN X16.here hx rfl (hb hby d5_31) rfl rfl ?_
    show Steps p.tables e below (T16.setTop (mkF m 32 #[.val (.ref a1)] [(.ref a1)])) _
    refine XS.aloadN X16.here hx rfl (hb hby d5_32) rfl rfl ?_
    show Steps p.tables e below (T16.setTop (mkF m 33 #[.val (.ref a1)] [(.ref a1), (.ref a1)])) _
    refine st25 _ ?_
    show Steps p.tables e below (T25.setTop (mkF m 36 #[.val (.ref a1)] [(.long (sv.1 + sv.2.1)), (.ref a1)])) _
    refine XS.bipush X25.here hx rfl (hb hby d5_36) ?_
    show Steps p.tables e below (T25.setTop (mkF m 38 #[.val (.ref a1)] [(.int (32 : Int32)), (.long (sv.1 + sv.2.1)), (.ref a1)])) _
    refine st27 _ ?_
    show Steps p.tables e below (T27.setTop (mkF m 41 #[.val (.ref a1)] [(.long (own_rotl (sv.1 + sv.2.1) (32 : Int32))), (.ref a1)])) _
    refine st28 _ ?_
    show Steps p.tables e below (T28.setTop (mkF m 44 #[.val (.ref a1)] [])) _
    refine XS.aloadN X28.here hx rfl (hb hby d5_44) rfl rfl ?_
    show Steps p.tables e below (T28.setTop (mkF m 45 #[.val (.ref a1)] [(.ref a1)])) _
    refine XS.dup X28.here hx rfl (hb hby d5_45) rfl rfl ?_
    show Steps p.tables e below (T28.setTop (mkF m 46 #[.val (.ref a1)] [(.ref a1), (.ref a1)])) _
    refine st37 _ ?_
    show Steps p.tables e below (T37.setTop (mkF m 49 #[.val (.ref a1)] [(.long sv.2.2.1), (.ref a1)])) _
    refine XS.aloadN X37.here hx rfl (hb hby d5_49) rfl rfl ?_
    show Steps p.tables e below (T37.setTop (mkF m 50 #[.val (.ref a1)] [(.ref a1), (.long sv.2.2.1), (.ref a1)])) _
    refine st38 _ ?_
    show Steps p.tables e below (T38.setTop (mkF m 53 #[.val (.ref a1)] [(.long sv.2.2.2), (.long sv.2.2.1), (.ref a1)])) _
    refine XS.ladd X38.here hx rfl (hb hby d5_53) rfl ?_
    show Steps p.tables e below (T38.setTop (mkF m 54 #[.val (.ref a1)] [(.long (sv.2.2.1 + sv.2.2.2)), (.ref a1)])) _
    refine st39 _ ?_
    show Steps p.tables e below (T39.setTop (mkF m 57 #[.val (.ref a1)] [])) _
    refine XS.aloadN X39.here hx rfl (hb hby d5_57) rfl rfl ?_
    show Steps p.tables e below (T39.setTop (mkF m 58 #[.val (.ref a1)] [(.ref a1)])) _
    refine XS.aloadN X39.here hx rfl (hb hby d5_58) rfl rfl ?_
    show Steps p.tables e below (T39.setTop (mkF m 59 #[.val (.ref a1)] [(.ref a1), (.ref a1)])) _
    refine st48 _ ?_
    show Steps p.tables e below (T48.setTop (mkF m 62 #[.val (.ref a1)] [(.long sv.2.2.2), (.ref a1)])) _
    refine XS.bipush X48.here hx rfl (hb hby d5_62) ?_
    show Steps p.tables e below (T48.setTop (mkF m 64 #[.val (.ref a1)] [(.int (16 : Int32)), (.long sv.2.2.2), (.ref a1)])) _
    refine st50 _ ?_
    show Steps p.tables e below (T50.setTop (mkF m 67 #[.val (.ref a1)] [(.long (own_rotl sv.2.2.2 (16 : Int32))), (.ref a1)])) _
    refine XS.aloadN X50.here hx rfl (hb hby d5_67) rfl rfl ?_
    show Steps p.tables e below (T50.setTop (mkF m 68 #[.val (.ref a1)] [(.ref a1), (.long (own_rotl sv.2.2.2 (16 : Int32))), (.ref a1)])) _
    refine st51 _ ?_
    show Steps p.tables e below (T51.setTop (mkF m 71 #[.val (.ref a1)] [(.long (sv.2.2.1 + sv.2.2.2)), (.long (own_rotl sv.2.2.2 (16 : Int32))), (.ref a1)])) _
    refine XS.lxor X51.here hx rfl (hb hby d5_71) rfl ?_
    show Steps p.tables e below (T51.setTop (mkF m 72 #[.val (.ref a1)] [(.long ((own_rotl sv.2.2.2 (16 : Int32)) ^^^ (sv.2.2.1 + sv.2.2.2))), (.ref a1)])) _
    refine st52 _ ?_
    show Steps p.tables e below (T52.setTop (mkF m 75 #[.val (.ref a1)] [])) _
    refine XS.aloadN X52.here hx rfl (hb hby d5_75) rfl rfl ?_
    show Steps p.tables e below (T52.setTop (mkF m 76 #[.val (.ref a1)] [(.ref a1)])) _
    refine XS.dup X52.here hx rfl (hb hby d5_76) rfl rfl ?_
    show Steps p.tables e below (T52.setTop (mkF m 77 #[.val (.ref a1)] [(.ref a1), (.ref a1)])) _
    refine st61 _ ?_
    show Steps p.tables e below (T61.setTop (mkF m 80 #[.val (.ref a1)] [(.long (own_rotl (sv.1 + sv.2.1) (32 : Int32))), (.ref a1)])) _
    refine XS.aloadN X61.here hx rfl (hb hby d5_80) rfl rfl ?_
    show Steps p.tables e below (T61.setTop (mkF m 81 #[.val (.ref a1)] [(.ref a1), (.long (own_rotl (sv.1 + sv.2.1) (32 : Int32))), (.ref a1)])) _
    refine st62 _ ?_
    show Steps p.tables e below (T62.setTop (mkF m 84 #[.val (.ref a1)] [(.long ((own_rotl sv.2.2.2 (16 : Int32)) ^^^ (sv.2.2.1 + sv.2.2.2))), (.long (own_rotl (sv.1 + sv.2.1) (32 : Int32))), (.ref a1)])) _
    refine XS.ladd X62.here hx rfl (hb hby d5_84) rfl ?_
    show Steps p.tables e below (T62.setTop (mkF m 85 #[.val (.ref a1)] [(.long ((own_rotl (sv.1 + sv.2.1) (32 : Int32)) + ((own_rotl sv.2.2.2 (16 : Int32)) ^^^ (sv.2.2.1 + sv.2.2.2)))), (.ref a1)])) _
    refine st63 _ ?_
    show Steps p.tables e below (T63.setTop (mkF m 88 #[.val (.ref a1)] [])) _
    refine XS.aloadN X63.here hx rfl (hb hby d5_88) rfl rfl ?_
    show Steps p.tables e below (T63.setTop (mkF m 89 #[.val (.ref a1)] [(.ref a1)])) _
    refine XS.aloadN X63.here hx rfl (hb hby d5_89) rfl rfl ?_
    show Steps p.tables e below (T63.setTop (mkF m 90 #[.val (.ref a1)] [(.ref a1), (.ref a1)])) _
    refine st72 _ ?_
    show Steps p.tables e below (T72.setTop (mkF m 93 #[.val (.ref a1)] [(.long ((own_rotl sv.2.2.2 (16 : Int32)) ^^^ (sv.2.2.1 + sv.2.2.2))), (.ref a1)])) _
    refine XS.bipush X72.here hx rfl (hb hby d5_93) ?_
    show Steps p.tables e below (T72.setTop (mkF m 95 #[.val (.ref a1)] [(.int (21 : Int32)), (.long ((own_rotl sv.2.2.2 (16 : Int32)) ^^^ (sv.2.2.1 + sv.2.2.2))), (.ref a1)])) _
    refine st74 _ ?_
    show Steps p.tables e below (T74.setTop (mkF m 98 #[.val (.ref a1)] [(.long (own_rotl ((own_rotl sv.2.2.2 (16 : Int32)) ^^^ (sv.2.2.1 + sv.2.2.2)) (21 : Int32))), (.ref a1)])) _
    refine XS.aloadN X74.here hx rfl (hb hby d5_98) rfl rfl ?_
    show Steps p.tables e below (T74.setTop (mkF m 99 #[.val (.ref a1)] [(.ref a1), (.long (own_rotl ((own_rotl sv.2.2.2 (16 : Int32)) ^^^ (sv.2.2.1 + sv.2.2.2)) (21 : Int32))), (.ref a1)])) _
    refine st75 _ ?_
    show Steps p.tables e below (T75.setTop (mkF m 102 #[.val (.ref a1)] [(.long ((own_rotl (sv.1 + sv.2.1) (32 : Int32)) + ((own_rotl sv.2.2.2 (16 : Int32)) ^^^ (sv.2.2.1 + sv.2.2.2)))), (.long (own_rotl ((own_rotl sv.2.2.2 (16 : Int32)) ^^^ (sv.2.2.1 + sv.2.2.2)) (21 : Int32))), (.ref a1)])) _
    refine XS.lxor X75.here hx rfl (hb hby d5_102) rfl ?_
    show Steps p.tables e below (T75.setTop (mkF m 103 #[.val (.ref a1)] [(.long ((own_rotl ((own_rotl sv.2.2.2 (16 : Int32)) ^^^ (sv.2.2.1 + sv.2.2.2)) (21 : Int32)) ^^^ ((own_rotl (sv.1 + sv.2.1) (32 : Int32)) + ((own_rotl sv.2.2.2 (16 : Int32)) ^^^ (sv.2.2.1 + sv.2.2.2))))), (.ref a1)])) _
    refine st76 _ ?_
    show Steps p.tables e below (T76.setTop (mkF m 106 #[.val (.ref a1)] [])) _
    refine XS.aloadN X76.here hx rfl (hb hby d5_106) rfl rfl ?_
    show Steps p.tables e below (T76.setTop (mkF m 107 #[.val (.ref a1)] [(.ref a1)])) _
    refine XS.dup X76.here hx rfl (hb hby d5_107) rfl rfl ?_
    show Steps p.tables e below (T76.setTop (mkF m 108 #[.val (.ref a1)] [(.ref a1), (.ref a1)])) _
    refine st85 _ ?_
    show Steps p.tables e below (T85.setTop (mkF m 111 #[.val (.ref a1)] [(.long (sv.2.2.1 + sv.2.2.2)), (.ref a1)])) _
    refine XS.aloadN X85.here hx rfl (hb hby d5_111) rfl rfl ?_
    show Steps p.tables e below (T85.setTop (mkF m 112 #[.val (.ref a1)] [(.ref a1), (.long (sv.2.2.1 + sv.2.2.2)), (.ref a1)])) _
    refine st86 _ ?_
    show Steps p.tables e below (T86.setTop (mkF m 115 #[.val (.ref a1)] [(.long ((own_rotl sv.2.1 (13 : Int32)) ^^^ (sv.1 + sv.2.1))), (.long (sv.2.2.1 + sv.2.2.2)), (.ref a1)])) _
    refine XS.ladd X86.here hx rfl (hb hby d5_115) rfl ?_
    show Steps p.tables e below (T86.setTop (mkF m 116 #[.val (.ref a1)] [(.long ((sv.2.2.1 + sv.2.2.2) + ((own_rotl sv.2.1 (13 : Int32)) ^^^ (sv.1 + sv.2.1)))), (.ref a1)])) _
    refine st87 _ ?_
    show Steps p.tables e below (T87.setTop (mkF m 119 #[.val (.ref a1)] [])) _
    refine XS.aloadN X87.here hx rfl (hb hby d5_119) rfl rfl ?_
    show Steps p.tables e below (T87.setTop (mkF m 120 #[.val (.ref a1)] [(.ref a1)])) _
    refine XS.aloadN X87.here hx rfl (hb hby d5_120) rfl rfl ?_
    show Steps p.tables e below (T87.setTop (mkF m 121 #[.val (.ref a1)] [(.ref a1), (.ref a1)])) _
    refine st96 _ ?_
    show Steps p.tables e below (T96.setTop (mkF m 124 #[.val (.ref a1)] [(.long ((own_rotl sv.2.1 (13 : Int32)) ^^^ (sv.1 + sv.2.1))), (.ref a1)])) _
    refine XS.bipush X96.here hx rfl (hb hby d5_124) ?_
    show Steps p.tables e below (T96.setTop (mkF m 126 #[.val (.ref a1)] [(.int (17 : Int32)), (.long ((own_rotl sv.2.1 (13 : Int32)) ^^^ (sv.1 + sv.2.1))), (.ref a1)])) _
    refine st98 _ ?_
    show Steps p.tables e below (T98.setTop (mkF m 129 #[.val (.ref a1)] [(.long (own_rotl ((own_rotl sv.2.1 (13 : Int32)) ^^^ (sv.1 + sv.2.1)) (17 : Int32))), (.ref a1)])) _
    refine XS.aloadN X98.here hx rfl (hb hby d5_129) rfl rfl ?_
    show Steps p.tables e below (T98.setTop (mkF m 130 #[.val (.ref a1)] [(.ref a1), (.long (own_rotl ((own_rotl sv.2.1 (13 : Int32)) ^^^ (sv.1 + sv.2.1)) (17 : Int32))), (.ref a1)])) _
    refine st99 _ ?_
    show Steps p.tables e below (T99.setTop (mkF m 133 #[.val (.ref a1)] [(.long ((sv.2.2.1 + sv.2.2.2) + ((own_rotl sv.2.1 (13 : Int32)) ^^^ (sv.1 + sv.2.1)))), (.long (own_rotl ((own_rotl sv.2.1 (13 : Int32)) ^^^ (sv.1 + sv.2.1)) (17 : Int32))), (.ref a1)])) _
    refine XS.lxor X99.here hx rfl (hb hby d5_133) rfl ?_
    show Steps p.tables e below (T99.setTop (mkF m 134 #[.val (.ref a1)] [(.long ((own_rotl ((own_rotl sv.2.1 (13 : Int32)) ^^^ (sv.1 + sv.2.1)) (17 : Int32)) ^^^ ((sv.2.2.1 + sv.2.2.2) + ((own_rotl sv.2.1 (13 : Int32)) ^^^ (sv.1 + sv.2.1))))), (.ref a1)])) _
    refine st100 _ ?_
    show Steps p.tables e below (T100.setTop (mkF m 137 #[.val (.ref a1)] [])) _
    refine XS.aloadN X100.here hx rfl (hb hby d5_137) rfl rfl ?_
    show Steps p.tables e below (T100.setTop (mkF m 138 #[.val (.ref a1)] [(.ref a1)])) _
    refine XS.aloadN X100.here hx rfl (hb hby d5_138) rfl rfl ?_
    show Steps p.tables e below (T100.setTop (mkF m 139 #[.val (.ref a1)] [(.ref a1), (.ref a1)])) _
    refine st109 _ ?_
    show Steps p.tables e below (T109.setTop (mkF m 142 #[.val (.ref a1)] [(.long ((sv.2.2.1 + sv.2.2.2) + ((own_rotl sv.2.1 (13 : Int32)) ^^^ (sv.1 + sv.2.1)))), (.ref a1)])) _
    refine XS.bipush X109.here hx rfl (hb hby d5_142) ?_
    show Steps p.tables e below (T109.setTop (mkF m 144 #[.val (.ref a1)] [(.int (32 : Int32)), (.long ((sv.2.2.1 + sv.2.2.2) + ((own_rotl sv.2.1 (13 : Int32)) ^^^ (sv.1 + sv.2.1)))), (.ref a1)])) _
    refine st111 _ ?_
    show Steps p.tables e below (T111.setTop (mkF m 147 #[.val (.ref a1)] [(.long (own_rotl ((sv.2.2.1 + sv.2.2.2) + ((own_rotl sv.2.1 (13 : Int32)) ^^^ (sv.1 + sv.2.1))) (32 : Int32))), (.ref a1)])) _
    refine st112 _ ?_
    exact k)
  obtain ⟨fs, hr, hrun, hended, hW, hsame⟩ := X112.leave (v := none) (fun _ => rfl)
  refine ⟨_, _, k122 _ ?_, hrun, hended, _, _, rfl, ?_, ⟨_, rfl⟩, hW, hsame.mono (by decide) (by decide)⟩
  · show Steps p.tables e below (T112.setTop (mkF m 150 #[.val (.ref a1)] [])) _
    exact X112.returnOut hx Bd.returns (hb hby d5_150) hr
  ·
    show Qround _ a1 ka kb sv h0 n0 _ T112.heap _
    rw [e112]
    exact ⟨rfl, N112, K120, ⟨E114, F115, F116, F117, F118, F113, F119⟩⟩
theorem pd___V : parseMethodDescriptor "()V" = some ⟨[], none⟩ := by decide +kernel
theorem d4_0 : decode prog_33_method_3_code 0 = .ok (.aload_n 0, 1) := by decide +kernel
theorem d4_1 : decode prog_33_method_3_code 1 = .ok (.dup, 1) := by decide +kernel
theorem d4_2 : decode prog_33_method_3_code 2 = .ok (.getfield 33, 3) := by decide +kernel
theorem d4_5 : decode prog_33_method_3_code 5 = .ok (.lload_n 1, 1) := by decide +kernel
theorem d4_6 : decode prog_33_method_3_code 6 = .ok (.lxor, 1) := by decide +kernel
theorem d4_7 : decode prog_33_method_3_code 7 = .ok (.putfield 33, 3) := by decide +kernel
theorem d4_10 : decode prog_33_method_3_code 10 = .ok (.aload_n 0, 1) := by decide +kernel
theorem d4_11 : decode prog_33_method_3_code 11 = .ok (.invokevirtual 36, 3) := by decide +kernel
theorem d4_14 : decode prog_33_method_3_code 14 = .ok (.aload_n 0, 1) := by decide +kernel
theorem d4_15 : decode prog_33_method_3_code 15 = .ok (.invokevirtual 36, 3) := by decide +kernel
theorem d4_18 : decode prog_33_method_3_code 18 = .ok (.aload_n 0, 1) := by decide +kernel
theorem d4_19 : decode prog_33_method_3_code 19 = .ok (.dup, 1) := by decide +kernel
theorem d4_20 : decode prog_33_method_3_code 20 = .ok (.getfield 18, 3) := by decide +kernel
theorem d4_23 : decode prog_33_method_3_code 23 = .ok (.lload_n 1, 1) := by decide +kernel
theorem d4_24 : decode prog_33_method_3_code 24 = .ok (.lxor, 1) := by decide +kernel
theorem d4_25 : decode prog_33_method_3_code 25 = .ok (.putfield 18, 3) := by decide +kernel
theorem d4_28 : decode prog_33_method_3_code 28 = .ok (.aload_n 0, 1) := by decide +kernel
theorem d4_29 : decode prog_33_method_3_code 29 = .ok (.areturn, 1) := by decide +kernel
theorem pn_4 : plainName "com/example/stint/stint/core/SipHash" = true := by first | (simp [plainName, overriddenIn]; done) | decide +kernel
theorem ef_add (m : MethodId) (x0 : Addr) (x1 : Int64) : entryFrame m #[(.ref x0), (.long x1)] 3 = mkF m 0 #[.val (.ref x0), .val (.long x1), .second] [] := by first | (simp [entryFrame, mkF, argsToLocals, Value.category]; done) | rfl
def Qadd (Z : State) (a1 : Addr) (q2 : Int64) (ka : Int64) (kb : Int64) (sv : Int64 × Int64 × Int64 × Int64) (h0 : Heap) (n0 : Nat) (v : Option Value) (h : Heap) (L : List Loc) : Prop := v = some (.ref a1) ∧ Fr n0 L ∧ Keep h0 h [a1] ∧ own_Sip Z h a1 ka kb (own_add sv q2)
set_option maxRecDepth 65536 in
set_option maxHeartbeats 40000000 in
theorem rm_add (l : Launch) (Z : State) (a0 : Array Value) (hw : ∀ d ∈ tables_1, d.before a0 Z = true) (ws : List Jvm.Cond) (a1 : Addr) (q2 : Int64) (ka : Int64) (kb : Int64) (sv : Int64 × Int64 × Int64 × Int64) (h0 : Heap) (n0 : Nat) (Z0 : n0 ≤ h0.size) (S_a1 : own_Sip Z h0 a1 ka kb sv) (g_a1 : n0 ≤ a1) :
    MetFree l (⟨"com/example/stint/stint/core/SipHash", "add", "(J)Lcom/example/stint/stint/core/SipHash;"⟩ : MethodName) (head1 (Jvm.Cond.code (⟨"com/example/stint/stint/core/SipHash", "add", "(J)Lcom/example/stint/stint/core/SipHash;"⟩ : MethodName) prog_33_method_3_code 3 (some (.object "com/example/stint/stint/core/SipHash")) :: ws) ({ frames := 2, cells := 0, slots := 0, locals := 27 } : Room)) (fun a U => a = #[(.ref a1), (.long q2)] ∧ Z.Warmed39 U.vm ∧ U.heap = h0) (fun _ _ _ _ _ => True) (fun _ U o U' => ∃ v L, o = .returned v ∧ Qadd Z a1 q2 ka kb sv h0 n0 v U'.heap L ∧ FrameEnd U o U' L ({ frames := 2, cells := 0, slots := 0, locals := 27 } : Room).cells ({ frames := 2, cells := 0, slots := 0, locals := 27 } : Room).slots) := by
  refine MetFree.of_bodySF (plainFor_of_name pn_4) hisR ?_
  intro p e s m args below meth c s₁ Bd hml0 hP hK
  obtain ⟨rfl, hZ, hh⟩ := hP
  have hx := Bd.exec
  have hby := Bd.bytes
  have hml : c.maxLocals = 3 := hml0
  have hown : s.vm.findClass "com/example/stint/stint/core/SipHash" = some m.cls := findClass_of_methodNamed Bd.named
  have hnm := (name_of_methodNamed Bd.named Bd.method).1
  have X0 : Stand p l e ({ frames := 2, cells := 0, slots := 0, locals := 27 } : Room) s m #[(.ref a1), (.long q2)] below meth c s₁ [] 0 0 := Stand.of_body Bd
  have e0 : s₁.heap = h0 := by rw [← hh, Bd.state]; rfl
  have N0 := Fr.nil n0
  have k0 : ∀ t, Steps p.tables e below (s₁.setTop (mkF m 0 #[.val (.ref a1), .val (.long q2), .second] [])) t → Steps p.tables e below (s₁.setTop (entryFrame m #[(.ref a1), (.long q2)] 3)) t := fun t k => castTop (ef_add m a1 q2) k
  obtain ⟨E_a1, F_k0_a1, F_k1_a1, F_v0_a1, F_v1_a1, F_v2_a1, F_v3_a1⟩ := S_a1
  obtain ⟨T1, X1, e1, st1⟩ := getF X0 hx hZ hown (host := "") (Or.inl (hw _ (List.mem_of_getElem? (i := 28) rfl))) Via.refl e0 F_v3_a1 (g := (mkF m 2 #[.val (.ref a1), .val (.long q2), .second] [(.ref a1), (.ref a1)])) rfl rfl (hb hby d4_2)
  obtain ⟨T2, h2, X2, e2, W2, st2⟩ := putF X1 hx hZ hown (host := "") (Or.inl (hw _ (List.mem_of_getElem? (i := 28) rfl))) Via.refl e1 F_v3_a1 E_a1 (Or.inl (hw _ (List.mem_of_getElem? (i := 29) rfl))) (hw _ (List.mem_of_getElem? (i := 1) rfl)) (ty := .long) (by decide) rfl rfl (g := (mkF m 7 #[.val (.ref a1), .val (.long q2), .second] [(.long (sv.2.2.2 ^^^ q2)), (.ref a1)])) rfl rfl (hb hby d4_7)
  have N2 := Fr.snoc X2 N0 g_a1
  have F3 : Fld Z h2 a1 "com/example/stint/stint/core/SipHash" "v3" "J" (.long (sv.2.2.2 ^^^ q2)) := F_v3_a1.same W2
  have E4 : Exa Z h2 a1 "com/example/stint/stint/core/SipHash" := E_a1.wr W2
  have F5 : Fld Z h2 a1 "com/example/stint/stint/core/SipHash" "k0" "J" (.long ka) := F_k0_a1.other W2 (Or.inr (slot_ne (Or.inr (hw _ (List.mem_of_getElem? (i := 10) rfl))) (Or.inl (hw _ (List.mem_of_getElem? (i := 29) rfl))) (by decide) (t := .long) (t' := .long) (by decide) (by decide)))
  have F6 : Fld Z h2 a1 "com/example/stint/stint/core/SipHash" "k1" "J" (.long kb) := F_k1_a1.other W2 (Or.inr (slot_ne (Or.inr (hw _ (List.mem_of_getElem? (i := 12) rfl))) (Or.inl (hw _ (List.mem_of_getElem? (i := 29) rfl))) (by decide) (t := .long) (t' := .long) (by decide) (by decide)))
  have F7 : Fld Z h2 a1 "com/example/stint/stint/core/SipHash" "v0" "J" (.long sv.1) := F_v0_a1.other W2 (Or.inr (slot_ne (Or.inl (hw _ (List.mem_of_getElem? (i := 20) rfl))) (Or.inl (hw _ (List.mem_of_getElem? (i := 29) rfl))) (by decide) (t := .long) (t' := .long) (by decide) (by decide)))
  have F8 : Fld Z h2 a1 "com/example/stint/stint/core/SipHash" "v1" "J" (.long sv.2.1) := F_v1_a1.other W2 (Or.inr (slot_ne (Or.inl (hw _ (List.mem_of_getElem? (i := 23) rfl))) (Or.inl (hw _ (List.mem_of_getElem? (i := 29) rfl))) (by decide) (t := .long) (t' := .long) (by decide) (by decide)))
  have F9 : Fld Z h2 a1 "com/example/stint/stint/core/SipHash" "v2" "J" (.long sv.2.2.1) := F_v2_a1.other W2 (Or.inr (slot_ne (Or.inl (hw _ (List.mem_of_getElem? (i := 26) rfl))) (Or.inl (hw _ (List.mem_of_getElem? (i := 29) rfl))) (by decide) (t := .long) (t' := .long) (by decide) (by decide)))
  have K10 : Keep h0 h2 [a1] := (Keep.refl h0 [a1]).wr W2 (Or.inl (List.mem_of_getElem? (i := 0) rfl))
  obtain ⟨cq12, q12, q12'⟩ := E4.cell
  obtain ⟨_, _, ⟨T12, L12, kk12, n12⟩, -, X12, ⟨Lc12, hQ12, l12, y12, z12⟩, st12⟩ := X2.privateBack hx (y := (⟨"com/example/stint/stint/core/SipHash", "round", "()V"⟩ : MethodName)) hown (mvT hZ (hw _ (List.mem_of_getElem? (i := 35) rfl))) (mvT hZ (hw _ (List.mem_of_getElem? (i := 36) rfl))) (mvT hZ (own_sel (hw _ (List.mem_of_getElem? (i := 36) rfl)) (hw _ (List.mem_of_getElem? (i := 37) rfl)) (hw _ (List.mem_of_getElem? (i := 1) rfl)) (by decide))) (Cond.privateMethod_at (mvP hZ (hw _ (List.mem_of_getElem? (i := 37) rfl)) (args := #[]))) (mvT hZ (hw _ (List.mem_of_getElem? (i := 38) rfl))) (by decide) (backOf (W := 0) (rm_round l Z a0 hw [] a1 ka kb (sv.1, sv.2.1, sv.2.2.1, (sv.2.2.2 ^^^ q2)) h2 n0 (Nat.le_trans Z0 K10.1) ⟨E4, F5, F6, F7, F8, F9, F3⟩ g_a1) hZ (hw _ (List.mem_of_getElem? (i := 38) rfl)) (hw _ (List.mem_of_getElem? (i := 2) rfl)) (by decide) (by decide)) (g := (mkF m 11 #[.val (.ref a1), .val (.long q2), .second] [(.ref a1)])) rfl (by rw [hml]; rfl) (Steps.refl _) (a := a1) (by rw [e2]; exact q12) q12' (argsL := []) (rest := []) (lenOf pd___V rfl) rfl (by show 2 * 0 + _ ≤ _; exact Nat.le_of_eq rfl) (hb hby d4_11) (fun _ _ => ⟨rfl, e2, (by decide : 0 + 0 ≤ _), (by decide : 0 + 0 ≤ _)⟩)
  dsimp only [Pt.U, Pt.locs, Pt.cells, Pt.slots] at X12 l12 y12 z12 st12 hQ12
  subst l12 y12 z12
  obtain ⟨rfl, N12q, Kr11, Sr11⟩ := hQ12
  have N12 := Fr.app N2 N12q
  have K13 : Keep h0 T12.heap [a1] := K10.trans Kr11 (allS (Or.inl (List.mem_of_getElem? (i := 0) rfl)) all0)
  have E14 : Exa Z T12.heap a1 "com/example/stint/stint/core/SipHash" := E4.keep Kr11
  obtain ⟨t1, hd_t1⟩ : ∃ z : Int64 × Int64 × Int64 × Int64, z = own_rnd (sv.1, sv.2.1, sv.2.2.1, (sv.2.2.2 ^^^ q2)) := ⟨_, rfl⟩
  rw [← hd_t1] at Sr11
  obtain ⟨E15_a1, F15_k0_a1, F15_k1_a1, F15_v0_a1, F15_v1_a1, F15_v2_a1, F15_v3_a1⟩ := Sr11
  obtain ⟨cq17, q17, q17'⟩ := E15_a1.cell
  obtain ⟨_, _, ⟨T17, L17, kk17, n17⟩, -, X17, ⟨Lc17, hQ17, l17, y17, z17⟩, st17⟩ := X12.privateBack hx (y := (⟨"com/example/stint/stint/core/SipHash", "round", "()V"⟩ : MethodName)) hown (mvT hZ (hw _ (List.mem_of_getElem? (i := 35) rfl))) (mvT hZ (hw _ (List.mem_of_getElem? (i := 36) rfl))) (mvT hZ (own_sel (hw _ (List.mem_of_getElem? (i := 36) rfl)) (hw _ (List.mem_of_getElem? (i := 37) rfl)) (hw _ (List.mem_of_getElem? (i := 1) rfl)) (by decide))) (Cond.privateMethod_at (mvP hZ (hw _ (List.mem_of_getElem? (i := 37) rfl)) (args := #[]))) (mvT hZ (hw _ (List.mem_of_getElem? (i := 38) rfl))) (by decide) (backOf (W := 0) (rm_round l Z a0 hw [] a1 ka kb (t1.1, t1.2.1, t1.2.2.1, t1.2.2.2) T12.heap n0 (Nat.le_trans Z0 K13.1) ⟨E15_a1, F15_k0_a1, F15_k1_a1, F15_v0_a1, F15_v1_a1, F15_v2_a1, F15_v3_a1⟩ g_a1) hZ (hw _ (List.mem_of_getElem? (i := 38) rfl)) (hw _ (List.mem_of_getElem? (i := 2) rfl)) (by decide) (by decide)) (g := (mkF m 15 #[.val (.ref a1), .val (.long q2), .second] [(.ref a1)])) rfl (by rw [hml]; rfl) (Steps.refl _) (a := a1) q17 q17' (argsL := []) (rest := []) (lenOf pd___V rfl) rfl (by show 2 * 0 + _ ≤ _; exact Nat.le_of_eq rfl) (hb hby d4_15) (fun _ _ => ⟨rfl, rfl, (by decide : 0 + 0 ≤ _), (by decide : 0 + 0 ≤ _)⟩)
  dsimp only [Pt.U, Pt.locs, Pt.cells, Pt.slots] at X17 l17 y17 z17 st17 hQ17
  subst l17 y17 z17
  obtain ⟨rfl, N17q, Kr16, Sr16⟩ := hQ17
  have N17 := Fr.app N12 N17q
  have K18 : Keep h0 T17.heap [a1] := K13.trans Kr16 (allS (Or.inl (List.mem_of_getElem? (i := 0) rfl)) all0)
  have E19 : Exa Z T17.heap a1 "com/example/stint/stint/core/SipHash" := E15_a1.keep Kr16
  obtain ⟨t2, hd_t2⟩ : ∃ z : Int64 × Int64 × Int64 × Int64, z = own_rnd (t1.1, t1.2.1, t1.2.2.1, t1.2.2.2) := ⟨_, rfl⟩
  rw [← hd_t2] at Sr16
  obtain ⟨E20_a1, F20_k0_a1, F20_k1_a1, F20_v0_a1, F20_v1_a1, F20_v2_a1, F20_v3_a1⟩ := Sr16
  obtain ⟨T21, X21, e21, st21⟩ := getF X17 hx hZ hown (host := "") (Or.inl (hw _ (List.mem_of_getElem? (i := 19) rfl))) Via.refl rfl F20_v0_a1 (g := (mkF m 20 #[.val (.ref a1), .val (.long q2), .second] [(.ref a1), (.ref a1)])) rfl rfl (hb hby d4_20)
  obtain ⟨T22, h22, X22, e22, W22, st22⟩ := putF X21 hx hZ hown (host := "") (Or.inl (hw _ (List.mem_of_getElem? (i := 19) rfl))) Via.refl e21 F20_v0_a1 E20_a1 (Or.inl (hw _ (List.mem_of_getElem? (i := 20) rfl))) (hw _ (List.mem_of_getElem? (i := 1) rfl)) (ty := .long) (by decide) rfl rfl (g := (mkF m 25 #[.val (.ref a1), .val (.long q2), .second] [(.long (t2.1 ^^^ q2)), (.ref a1)])) rfl rfl (hb hby d4_25)
  have N22 := Fr.snoc X22 N17 g_a1
  have F23 : Fld Z h22 a1 "com/example/stint/stint/core/SipHash" "v0" "J" (.long (t2.1 ^^^ q2)) := F20_v0_a1.same W22
  have E24 : Exa Z h22 a1 "com/example/stint/stint/core/SipHash" := E20_a1.wr W22
  have F25 : Fld Z h22 a1 "com/example/stint/stint/core/SipHash" "k0" "J" (.long ka) := F20_k0_a1.other W22 (Or.inr (slot_ne (Or.inr (hw _ (List.mem_of_getElem? (i := 10) rfl))) (Or.inl (hw _ (List.mem_of_getElem? (i := 20) rfl))) (by decide) (t := .long) (t' := .long) (by decide) (by decide)))
  have F26 : Fld Z h22 a1 "com/example/stint/stint/core/SipHash" "k1" "J" (.long kb) := F20_k1_a1.other W22 (Or.inr (slot_ne (Or.inr (hw _ (List.mem_of_getElem? (i := 12) rfl))) (Or.inl (hw _ (List.mem_of_getElem? (i := 20) rfl))) (by decide) (t := .long) (t' := .long) (by decide) (by decide)))
  have F27 : Fld Z h22 a1 "com/example/stint/stint/core/SipHash" "v1" "J" (.long t2.2.1) := F20_v1_a1.other W22 (Or.inr (slot_ne (Or.inl (hw _ (List.mem_of_getElem? (i := 23) rfl))) (Or.inl (hw _ (List.mem_of_getElem? (i := 20) rfl))) (by decide) (t := .long) (t' := .long) (by decide) (by decide)))
  have F28 : Fld Z h22 a1 "com/example/stint/stint/core/SipHash" "v2" "J" (.long t2.2.2.1) := F20_v2_a1.other W22 (Or.inr (slot_ne (Or.inl (hw _ (List.mem_of_getElem? (i := 26) rfl))) (Or.inl (hw _ (List.mem_of_getElem? (i := 20) rfl))) (by decide) (t := .long) (t' := .long) (by decide) (by decide)))
  have F29 : Fld Z h22 a1 "com/example/stint/stint/core/SipHash" "v3" "J" (.long t2.2.2.2) := F20_v3_a1.other W22 (Or.inr (slot_ne (Or.inl (hw _ (List.mem_of_getElem? (i := 29) rfl))) (Or.inl (hw _ (List.mem_of_getElem? (i := 20) rfl))) (by decide) (t := .long) (t' := .long) (by decide) (by decide)))
  have K30 : Keep h0 h22 [a1] := K18.wr W22 (Or.inl (List.mem_of_getElem? (i := 0) rfl))
  have hv : own_add sv q2 = (t2.1 ^^^ q2, t2.2.1, t2.2.2.1, t2.2.2.2) := by subst hd_t2 hd_t1; rfl
  have k32 : ∀ t, Steps p.tables e below (T22.setTop (mkF m 29 #[.val (.ref a1), .val (.long q2), .second] [(.ref a1)])) t → Steps p.tables e below (s₁.setTop (entryFrame m #[(.ref a1), (.long q2)] 3)) t := fun t k => k0 t (by
    show Steps p.tables e below (s₁.setTop (mkF m 0 #[.val (.ref a1), .val (.long q2), .second] [])) _
    refine XS.aloadN X0.here hx rfl (hb hby d4_0) rfl rfl ?_
    show Steps p.tables e below (s₁.setTop (mkF m 1 #[.val (.ref a1), .val (.long q2), .second] [(.ref a1)])) _
    refine XS.dup X0.here hx rfl (hb hby d4_1) rfl rfl ?_
    show Steps p.tables e below (s₁.setTop (mkF m 2 #[.val (.ref a1), .val (.long q2), .second] [(.ref a1), (.ref a1)])) _
    refine st1 _ ?_
    show Steps p.tables e below (T1.setTop (mkF m 5 #[.val (.ref a1), .val (.long q2), .second] [(.long sv.2.2.2), (.ref a1)])) _
    refine XS.lloadN X1.here hx rfl (hb hby d4_5) rfl ?_
    show Steps p.tables e below (T1.setTop (mkF m 6 #[.val (.ref a1), .val (.long q2), .second] [(.long q2), (.long sv.2.2.2), (.ref a1)])) _
    refine XS.lxor X1.here hx rfl (hb hby d4_6) rfl ?_
    show Steps p.tables e below (T1.setTop (mkF m 7 #[.val (.ref a1), .val (.long q2), .second] [(.long (sv.2.2.2 ^^^ q2)), (.ref a1)])) _
    refine st2 _ ?_
    show Steps p.tables e below (T2.setTop (mkF m 10 #[.val (.ref a1), .val (.long q2), .second] [])) _
    refine XS.aloadN X2.here hx rfl (hb hby d4_10) rfl rfl ?_
    show Steps p.tables e below (T2.setTop (mkF m 11 #[.val (.ref a1), .val (.long q2), .second] [(.ref a1)])) _
    refine st12.trans ?_
    show Steps p.tables e below (T12.setTop (mkF m 14 #[.val (.ref a1), .val (.long q2), .second] [])) _
    refine XS.aloadN X12.here hx rfl (hb hby d4_14) rfl rfl ?_
    show Steps p.tables e below (T12.setTop (mkF m 15 #[.val (.ref a1), .val (.long q2), .second] [(.ref a1)])) _
    refine st17.trans ?_
    show Steps p.tables e below (T17.setTop (mkF m 18 #[.val (.ref a1), .val (.long q2), .second] [])) _
    refine XS.aloadN X17.here hx rfl (hb hby d4_18) rfl rfl ?_
    show Steps p.tables e below (T17.setTop (mkF m 19 #[.val (.ref a1), .val (.long q2), .second] [(.ref a1)])) _
    refine XS.dup X17.here hx rfl (hb hby d4_19) rfl rfl ?_
    show Steps p.tables e below (T17.setTop (mkF m 20 #[.val (.ref a1), .val (.long q2), .second] [(.ref a1), (.ref a1)])) _
    refine st21 _ ?_
    show Steps p.tables e below (T21.setTop (mkF m 23 #[.val (.ref a1), .val (.long q2), .second] [(.long t2.1), (.ref a1)])) _
    refine XS.lloadN X21.here hx rfl (hb hby d4_23) rfl ?_
    show Steps p.tables e below (T21.setTop (mkF m 24 #[.val (.ref a1), .val (.long q2), .second] [(.long q2), (.long t2.1), (.ref a1)])) _
    refine XS.lxor X21.here hx rfl (hb hby d4_24) rfl ?_
    show Steps p.tables e below (T21.setTop (mkF m 25 #[.val (.ref a1), .val (.long q2), .second] [(.long (t2.1 ^^^ q2)), (.ref a1)])) _
    refine st22 _ ?_
    show Steps p.tables e below (T22.setTop (mkF m 28 #[.val (.ref a1), .val (.long q2), .second] [])) _
    refine XS.aloadN X22.here hx rfl (hb hby d4_28) rfl rfl ?_
    exact k)
  obtain ⟨fs, hr, hrun, hended, hW, hsame⟩ := X22.leave (v := some (.ref a1)) (fun h => by rw [Bd.returns] at h; cases h)
  refine ⟨_, _, k32 _ ?_, hrun, hended, _, _, rfl, ?_, ⟨_, rfl⟩, hW, hsame.mono (by decide) (by decide)⟩
  · show Steps p.tables e below (T22.setTop (mkF m 29 #[.val (.ref a1), .val (.long q2), .second] [(.ref a1)])) _
    exact X22.areturnOut hx rfl Bd.returns rfl (hb hby d4_29) hr
  ·
    show Qadd _ a1 q2 ka kb sv h0 n0 _ T22.heap _
    rw [e22]
    exact ⟨rfl, N22, K30, by rw [hv]; exact ⟨E24, F25, F26, F23, F27, F28, F29⟩⟩
theorem pd__J_Lcom_example_stint_stint_core_SipHash_ : parseMethodDescriptor "(J)Lcom/example/stint/stint/core/SipHash;" = some ⟨[.long], some (.object "com/example/stint/stint/core/SipHash")⟩ := by decide +kernel
theorem d7_0 : decode prog_33_method_4_code 0 = .ok (.aload_n 0, 1) := by decide +kernel
theorem d7_1 : decode prog_33_method_4_code 1 = .ok (.iload_n 3, 1) := by decide +kernel
theorem d7_2 : decode prog_33_method_4_code 2 = .ok (.i2l, 1) := by decide +kernel
theorem d7_3 : decode prog_33_method_4_code 3 = .ok (.bipush 56, 2) := by decide +kernel
theorem d7_5 : decode prog_33_method_4_code 5 = .ok (.lshl, 1) := by decide +kernel
theorem d7_6 : decode prog_33_method_4_code 6 = .ok (.lload_n 1, 1) := by decide +kernel
theorem d7_7 : decode prog_33_method_4_code 7 = .ok (.lor, 1) := by decide +kernel
theorem d7_8 : decode prog_33_method_4_code 8 = .ok (.invokevirtual 39, 3) := by decide +kernel
theorem d7_11 : decode prog_33_method_4_code 11 = .ok (.pop, 1) := by decide +kernel
theorem d7_12 : decode prog_33_method_4_code 12 = .ok (.aload_n 0, 1) := by decide +kernel
theorem d7_13 : decode prog_33_method_4_code 13 = .ok (.dup, 1) := by decide +kernel
theorem d7_14 : decode prog_33_method_4_code 14 = .ok (.getfield 28, 3) := by decide +kernel
theorem d7_17 : decode prog_33_method_4_code 17 = .ok (.ldc2_w 43, 3) := by decide +kernel
theorem d7_20 : decode prog_33_method_4_code 20 = .ok (.lxor, 1) := by decide +kernel
theorem d7_21 : decode prog_33_method_4_code 21 = .ok (.putfield 28, 3) := by decide +kernel
theorem d7_24 : decode prog_33_method_4_code 24 = .ok (.aload_n 0, 1) := by decide +kernel
theorem d7_25 : decode prog_33_method_4_code 25 = .ok (.invokevirtual 36, 3) := by decide +kernel
theorem d7_28 : decode prog_33_method_4_code 28 = .ok (.aload_n 0, 1) := by decide +kernel
theorem d7_29 : decode prog_33_method_4_code 29 = .ok (.invokevirtual 36, 3) := by decide +kernel
theorem d7_32 : decode prog_33_method_4_code 32 = .ok (.aload_n 0, 1) := by decide +kernel
theorem d7_33 : decode prog_33_method_4_code 33 = .ok (.invokevirtual 36, 3) := by decide +kernel
theorem d7_36 : decode prog_33_method_4_code 36 = .ok (.aload_n 0, 1) := by decide +kernel
theorem d7_37 : decode prog_33_method_4_code 37 = .ok (.invokevirtual 36, 3) := by decide +kernel
theorem d7_40 : decode prog_33_method_4_code 40 = .ok (.aload_n 0, 1) := by decide +kernel
theorem d7_41 : decode prog_33_method_4_code 41 = .ok (.getfield 18, 3) := by decide +kernel
theorem d7_44 : decode prog_33_method_4_code 44 = .ok (.aload_n 0, 1) := by decide +kernel
theorem d7_45 : decode prog_33_method_4_code 45 = .ok (.getfield 23, 3) := by decide +kernel
theorem d7_48 : decode prog_33_method_4_code 48 = .ok (.lxor, 1) := by decide +kernel
theorem d7_49 : decode prog_33_method_4_code 49 = .ok (.aload_n 0, 1) := by decide +kernel
theorem d7_50 : decode prog_33_method_4_code 50 = .ok (.getfield 28, 3) := by decide +kernel
theorem d7_53 : decode prog_33_method_4_code 53 = .ok (.lxor, 1) := by decide +kernel
theorem d7_54 : decode prog_33_method_4_code 54 = .ok (.aload_n 0, 1) := by decide +kernel
theorem d7_55 : decode prog_33_method_4_code 55 = .ok (.getfield 33, 3) := by decide +kernel
theorem d7_58 : decode prog_33_method_4_code 58 = .ok (.lxor, 1) := by decide +kernel
theorem d7_59 : decode prog_33_method_4_code 59 = .ok (.lreturn, 1) := by decide +kernel
theorem pn_7 : plainName "com/example/stint/stint/core/SipHash" = true := by first | (simp [plainName, overriddenIn]; done) | decide +kernel
theorem ef_finish (m : MethodId) (x0 : Addr) (x1 : Int64) (x2 : Int32) : entryFrame m #[(.ref x0), (.long x1), (.int x2)] 4 = mkF m 0 #[.val (.ref x0), .val (.long x1), .second, .val (.int x2)] [] := by first | (simp [entryFrame, mkF, argsToLocals, Value.category]; done) | rfl
def Qfinish (Z : State) (a1 : Addr) (q2 : Int64) (p3 : Int32) (ka : Int64) (kb : Int64) (sv : Int64 × Int64 × Int64 × Int64) (h0 : Heap) (n0 : Nat) (v : Option Value) (h : Heap) (L : List Loc) : Prop := v = some (.long (own_fin sv q2 p3)) ∧ Fr n0 L ∧ Keep h0 h [a1] ∧ (∃ t : Int64 × Int64 × Int64 × Int64, own_Sip Z h a1 ka kb t)
set_option maxRecDepth 65536 in
set_option maxHeartbeats 40000000 in
theorem rm_finish (l : Launch) (Z : State) (a0 : Array Value) (hw : ∀ d ∈ tables_1, d.before a0 Z = true) (ws : List Jvm.Cond) (a1 : Addr) (q2 : Int64) (p3 : Int32) (ka : Int64) (kb : Int64) (sv : Int64 × Int64 × Int64 × Int64) (h0 : Heap) (n0 : Nat) (Z0 : n0 ≤ h0.size) (S_a1 : own_Sip Z h0 a1 ka kb sv) (g_a1 : n0 ≤ a1) :
    MetFree l (⟨"com/example/stint/stint/core/SipHash", "finish", "(JI)J"⟩ : MethodName) (head1 (Jvm.Cond.code (⟨"com/example/stint/stint/core/SipHash", "finish", "(JI)J"⟩ : MethodName) prog_33_method_4_code 4 (some .long) :: ws) ({ frames := 3, cells := 0, slots := 0, locals := 41 } : Room)) (fun a U => a = #[(.ref a1), (.long q2), (.int p3)] ∧ Z.Warmed39 U.vm ∧ U.heap = h0) (fun _ _ _ _ _ => True) (fun _ U o U' => ∃ v L, o = .returned v ∧ Qfinish Z a1 q2 p3 ka kb sv h0 n0 v U'.heap L ∧ FrameEnd U o U' L ({ frames := 3, cells := 0, slots := 0, locals := 41 } : Room).cells ({ frames := 3, cells := 0, slots := 0, locals := 41 } : Room).slots) := by
  refine MetFree.of_bodySF (plainFor_of_name pn_7) hisR ?_
  intro p e s m args below meth c s₁ Bd hml0 hP hK
  obtain ⟨rfl, hZ, hh⟩ := hP
  have hx := Bd.exec
  have hby := Bd.bytes
  have hml : c.maxLocals = 4 := hml0
  have hown : s.vm.findClass "com/example/stint/stint/core/SipHash" = some m.cls := findClass_of_methodNamed Bd.named
  have hnm := (name_of_methodNamed Bd.named Bd.method).1
  have X0 : Stand p l e ({ frames := 3, cells := 0, slots := 0, locals := 41 } : Room) s m #[(.ref a1), (.long q2), (.int p3)] below meth c s₁ [] 0 0 := Stand.of_body Bd
  have e0 : s₁.heap = h0 := by rw [← hh, Bd.state]; rfl
  have N0 := Fr.nil n0
  have k0 : ∀ t, Steps p.tables e below (s₁.setTop (mkF m 0 #[.val (.ref a1), .val (.long q2), .second, .val (.int p3)] [])) t → Steps p.tables e below (s₁.setTop (entryFrame m #[(.ref a1), (.long q2), (.int p3)] 4)) t := fun t k => castTop (ef_finish m a1 q2 p3) k
  obtain ⟨E_a1, F_k0_a1, F_k1_a1, F_v0_a1, F_v1_a1, F_v2_a1, F_v3_a1⟩ := S_a1
  obtain ⟨cq1, kq1, q1a, q1b, q1c⟩ := isOf hZ e0 E_a1
  obtain ⟨_, _, ⟨T1, L1, kk1, n1⟩, -, X1, ⟨Lc1, hQ1, l1, y1, z1⟩, st1⟩ := X0.virtualBack hx (y := (⟨"com/example/stint/stint/core/SipHash", "add", "(J)Lcom/example/stint/stint/core/SipHash;"⟩ : MethodName)) (z := (⟨"com/example/stint/stint/core/SipHash", "add", "(J)Lcom/example/stint/stint/core/SipHash;"⟩ : MethodName)) hown (mvT hZ (hw _ (List.mem_of_getElem? (i := 48) rfl))) (mvT hZ (hw _ (List.mem_of_getElem? (i := 31) rfl))) (notFace_of_selects (args := #[]) (mvT hZ (hw _ (List.mem_of_getElem? (i := 33) rfl)))) (mvT hZ (hw _ (List.mem_of_getElem? (i := 33) rfl))) (mvT hZ (hw _ (List.mem_of_getElem? (i := 32) rfl))) (by decide) (backOf (W := 0) (rm_add l Z a0 hw [] a1 (((p3.toInt64) <<< ((56 : Int32) &&& 0x3f).toInt64) ||| q2) ka kb sv h0 n0 Z0 ⟨E_a1, F_k0_a1, F_k1_a1, F_v0_a1, F_v1_a1, F_v2_a1, F_v3_a1⟩ g_a1) hZ (hw _ (List.mem_of_getElem? (i := 34) rfl)) (hw _ (List.mem_of_getElem? (i := 2) rfl)) (by decide) (by decide)) q1a q1c (g := (mkF m 8 #[.val (.ref a1), .val (.long q2), .second, .val (.int p3)] [(.long (((p3.toInt64) <<< ((56 : Int32) &&& 0x3f).toInt64) ||| q2)), (.ref a1)])) rfl (by rw [hml]; rfl) (Steps.refl _) (argsL := [(.long (((p3.toInt64) <<< ((56 : Int32) &&& 0x3f).toInt64) ||| q2))]) (rest := []) (lenOf pd__J_Lcom_example_stint_stint_core_SipHash_ rfl) rfl (by show 2 * 0 + _ ≤ _; exact Nat.le_of_eq rfl) (hb hby d7_8) (fun _ _ => ⟨rfl, e0, (by decide : 0 + 0 ≤ _), (by decide : 0 + 0 ≤ _)⟩)
  dsimp only [Pt.U, Pt.locs, Pt.cells, Pt.slots] at X1 l1 y1 z1 st1 hQ1
  subst l1 y1 z1
  obtain ⟨rfl, N1q, Ka, Sa⟩ := hQ1
  have N1 := Fr.app N0 N1q
  have K2 : Keep h0 T1.heap [a1] := (Keep.refl h0 [a1]).trans Ka (allS (Or.inl (List.mem_of_getElem? (i := 0) rfl)) all0)
  have E3 : Exa Z T1.heap a1 "com/example/stint/stint/core/SipHash" := E_a1.keep Ka
  obtain ⟨t1, hd_t1⟩ : ∃ z : Int64 × Int64 × Int64 × Int64, z = own_add sv (((p3.toInt64) <<< ((56 : Int32) &&& 0x3f).toInt64) ||| q2) := ⟨_, rfl⟩
  rw [← hd_t1] at Sa
  obtain ⟨E4_a1, F4_k0_a1, F4_k1_a1, F4_v0_a1, F4_v1_a1, F4_v2_a1, F4_v3_a1⟩ := Sa
  obtain ⟨T5, X5, e5, st5⟩ := getF X1 hx hZ hown (host := "") (Or.inl (hw _ (List.mem_of_getElem? (i := 25) rfl))) Via.refl rfl F4_v2_a1 (g := (mkF m 14 #[.val (.ref a1), .val (.long q2), .second, .val (.int p3)] [(.ref a1), (.ref a1)])) rfl rfl (hb hby d7_14)
  obtain ⟨T6, h6, X6, e6, W6, st6⟩ := putF X5 hx hZ hown (host := "") (Or.inl (hw _ (List.mem_of_getElem? (i := 25) rfl))) Via.refl e5 F4_v2_a1 E4_a1 (Or.inl (hw _ (List.mem_of_getElem? (i := 26) rfl))) (hw _ (List.mem_of_getElem? (i := 1) rfl)) (ty := .long) (by decide) rfl rfl (g := (mkF m 21 #[.val (.ref a1), .val (.long q2), .second, .val (.int p3)] [(.long (t1.2.2.1 ^^^ (255 : Int64))), (.ref a1)])) rfl rfl (hb hby d7_21)
  have N6 := Fr.snoc X6 N1 g_a1
  have F7 : Fld Z h6 a1 "com/example/stint/stint/core/SipHash" "v2" "J" (.long (t1.2.2.1 ^^^ (255 : Int64))) := F4_v2_a1.same W6
  have E8 : Exa Z h6 a1 "com/example/stint/stint/core/SipHash" := E4_a1.wr W6
  have F9 : Fld Z h6 a1 "com/example/stint/stint/core/SipHash" "k0" "J" (.long ka) := F4_k0_a1.other W6 (Or.inr (slot_ne (Or.inr (hw _ (List.mem_of_getElem? (i := 10) rfl))) (Or.inl (hw _ (List.mem_of_getElem? (i := 26) rfl))) (by decide) (t := .long) (t' := .long) (by decide) (by decide)))
  have F10 : Fld Z h6 a1 "com/example/stint/stint/core/SipHash" "k1" "J" (.long kb) := F4_k1_a1.other W6 (Or.inr (slot_ne (Or.inr (hw _ (List.mem_of_getElem? (i := 12) rfl))) (Or.inl (hw _ (List.mem_of_getElem? (i := 26) rfl))) (by decide) (t := .long) (t' := .long) (by decide) (by decide)))
  have F11 : Fld Z h6 a1 "com/example/stint/stint/core/SipHash" "v0" "J" (.long t1.1) := F4_v0_a1.other W6 (Or.inr (slot_ne (Or.inl (hw _ (List.mem_of_getElem? (i := 20) rfl))) (Or.inl (hw _ (List.mem_of_getElem? (i := 26) rfl))) (by decide) (t := .long) (t' := .long) (by decide) (by decide)))
  have F12 : Fld Z h6 a1 "com/example/stint/stint/core/SipHash" "v1" "J" (.long t1.2.1) := F4_v1_a1.other W6 (Or.inr (slot_ne (Or.inl (hw _ (List.mem_of_getElem? (i := 23) rfl))) (Or.inl (hw _ (List.mem_of_getElem? (i := 26) rfl))) (by decide) (t := .long) (t' := .long) (by decide) (by decide)))
  have F13 : Fld Z h6 a1 "com/example/stint/stint/core/SipHash" "v3" "J" (.long t1.2.2.2) := F4_v3_a1.other W6 (Or.inr (slot_ne (Or.inl (hw _ (List.mem_of_getElem? (i := 29) rfl))) (Or.inl (hw _ (List.mem_of_getElem? (i := 26) rfl))) (by decide) (t := .long) (t' := .long) (by decide) (by decide)))
  have K14 : Keep h0 h6 [a1] := K2.wr W6 (Or.inl (List.mem_of_getElem? (i := 0) rfl))
  obtain ⟨cq16, q16, q16'⟩ := E8.cell
  obtain ⟨_, _, ⟨T16, L16, kk16, n16⟩, -, X16, ⟨Lc16, hQ16, l16, y16, z16⟩, st16⟩ := X6.privateBack hx (y := (⟨"com/example/stint/stint/core/SipHash", "round", "()V"⟩ : MethodName)) hown (mvT hZ (hw _ (List.mem_of_getElem? (i := 35) rfl))) (mvT hZ (hw _ (List.mem_of_getElem? (i := 36) rfl))) (mvT hZ (own_sel (hw _ (List.mem_of_getElem? (i := 36) rfl)) (hw _ (List.mem_of_getElem? (i := 37) rfl)) (hw _ (List.mem_of_getElem? (i := 1) rfl)) (by decide))) (Cond.privateMethod_at (mvP hZ (hw _ (List.mem_of_getElem? (i := 37) rfl)) (args := #[]))) (mvT hZ (hw _ (List.mem_of_getElem? (i := 38) rfl))) (by decide) (backOf (W := 0) (rm_round l Z a0 hw [] a1 ka kb (t1.1, t1.2.1, (t1.2.2.1 ^^^ (255 : Int64)), t1.2.2.2) h6 n0 (Nat.le_trans Z0 K14.1) ⟨E8, F9, F10, F11, F12, F7, F13⟩ g_a1) hZ (hw _ (List.mem_of_getElem? (i := 38) rfl)) (hw _ (List.mem_of_getElem? (i := 2) rfl)) (by decide) (by decide)) (g := (mkF m 25 #[.val (.ref a1), .val (.long q2), .second, .val (.int p3)] [(.ref a1)])) rfl (by rw [hml]; rfl) (Steps.refl _) (a := a1) (by rw [e6]; exact q16) q16' (argsL := []) (rest := []) (lenOf pd___V rfl) rfl (by show 2 * 0 + _ ≤ _; exact Nat.le_of_eq rfl) (hb hby d7_25) (fun _ _ => ⟨rfl, e6, (by decide : 0 + 0 ≤ _), (by decide : 0 + 0 ≤ _)⟩)
  dsimp only [Pt.U, Pt.locs, Pt.cells, Pt.slots] at X16 l16 y16 z16 st16 hQ16
  subst l16 y16 z16
  obtain ⟨rfl, N16q, Kr15, Sr15⟩ := hQ16
  have N16 := Fr.app N6 N16q
  have K17 : Keep h0 T16.heap [a1] := K14.trans Kr15 (allS (Or.inl (List.mem_of_getElem? (i := 0) rfl)) all0)
  have E18 : Exa Z T16.heap a1 "com/example/stint/stint/core/SipHash" := E8.keep Kr15
  obtain ⟨t2, hd_t2⟩ : ∃ z : Int64 × Int64 × Int64 × Int64, z = own_rnd (t1.1, t1.2.1, (t1.2.2.1 ^^^ (255 : Int64)), t1.2.2.2) := ⟨_, rfl⟩
  rw [← hd_t2] at Sr15
  obtain ⟨E19_a1, F19_k0_a1, F19_k1_a1, F19_v0_a1, F19_v1_a1, F19_v2_a1, F19_v3_a1⟩ := Sr15
  obtain ⟨cq21, q21, q21'⟩ := E19_a1.cell
  obtain ⟨_, _, ⟨T21, L21, kk21, n21⟩, -, X21, ⟨Lc21, hQ21, l21, y21, z21⟩, st21⟩ := X16.privateBack hx (y := (⟨"com/example/stint/stint/core/SipHash", "round", "()V"⟩ : MethodName)) hown (mvT hZ (hw _ (List.mem_of_getElem? (i := 35) rfl))) (mvT hZ (hw _ (List.mem_of_getElem? (i := 36) rfl))) (mvT hZ (own_sel (hw _ (List.mem_of_getElem? (i := 36) rfl)) (hw _ (List.mem_of_getElem? (i := 37) rfl)) (hw _ (List.mem_of_getElem? (i := 1) rfl)) (by decide))) (Cond.privateMethod_at (mvP hZ (hw _ (List.mem_of_getElem? (i := 37) rfl)) (args := #[]))) (mvT hZ (hw _ (List.mem_of_getElem? (i := 38) rfl))) (by decide) (backOf (W := 0) (rm_round l Z a0 hw [] a1 ka kb (t2.1, t2.2.1, t2.2.2.1, t2.2.2.2) T16.heap n0 (Nat.le_trans Z0 K17.1) ⟨E19_a1, F19_k0_a1, F19_k1_a1, F19_v0_a1, F19_v1_a1, F19_v2_a1, F19_v3_a1⟩ g_a1) hZ (hw _ (List.mem_of_getElem? (i := 38) rfl)) (hw _ (List.mem_of_getElem? (i := 2) rfl)) (by decide) (by decide)) (g := (mkF m 29 #[.val (.ref a1), .val (.long q2), .second, .val (.int p3)] [(.ref a1)])) rfl (by rw [hml]; rfl) (Steps.refl _) (a := a1) q21 q21' (argsL := []) (rest := []) (lenOf pd___V rfl) rfl (by show 2 * 0 + _ ≤ _; exact Nat.le_of_eq rfl) (hb hby d7_29) (fun _ _ => ⟨rfl, rfl, (by decide : 0 + 0 ≤ _), (by decide : 0 + 0 ≤ _)⟩)
  dsimp only [Pt.U, Pt.locs, Pt.cells, Pt.slots] at X21 l21 y21 z21 st21 hQ21
  subst l21 y21 z21
  obtain ⟨rfl, N21q, Kr20, Sr20⟩ := hQ21
  have N21 := Fr.app N16 N21q
  have K22 : Keep h0 T21.heap [a1] := K17.trans Kr20 (allS (Or.inl (List.mem_of_getElem? (i := 0) rfl)) all0)
  have E23 : Exa Z T21.heap a1 "com/example/stint/stint/core/SipHash" := E19_a1.keep Kr20
  obtain ⟨t3, hd_t3⟩ : ∃ z : Int64 × Int64 × Int64 × Int64, z = own_rnd (t2.1, t2.2.1, t2.2.2.1, t2.2.2.2) := ⟨_, rfl⟩
  rw [← hd_t3] at Sr20
  obtain ⟨E24_a1, F24_k0_a1, F24_k1_a1, F24_v0_a1, F24_v1_a1, F24_v2_a1, F24_v3_a1⟩ := Sr20
  obtain ⟨cq26, q26, q26'⟩ := E24_a1.cell
  obtain ⟨_, _, ⟨T26, L26, kk26, n26⟩, -, X26, ⟨Lc26, hQ26, l26, y26, z26⟩, st26⟩ := X21.privateBack hx (y := (⟨"com/example/stint/stint/core/SipHash", "round", "()V"⟩ : MethodName)) hown (mvT hZ (hw _ (List.mem_of_getElem? (i := 35) rfl))) (mvT hZ (hw _ (List.mem_of_getElem? (i := 36) rfl))) (mvT hZ (own_sel (hw _ (List.mem_of_getElem? (i := 36) rfl)) (hw _ (List.mem_of_getElem? (i := 37) rfl)) (hw _ (List.mem_of_getElem? (i := 1) rfl)) (by decide))) (Cond.privateMethod_at (mvP hZ (hw _ (List.mem_of_getElem? (i := 37) rfl)) (args := #[]))) (mvT hZ (hw _ (List.mem_of_getElem? (i := 38) rfl))) (by decide) (backOf (W := 0) (rm_round l Z a0 hw [] a1 ka kb (t3.1, t3.2.1, t3.2.2.1, t3.2.2.2) T21.heap n0 (Nat.le_trans Z0 K22.1) ⟨E24_a1, F24_k0_a1, F24_k1_a1, F24_v0_a1, F24_v1_a1, F24_v2_a1, F24_v3_a1⟩ g_a1) hZ (hw _ (List.mem_of_getElem? (i := 38) rfl)) (hw _ (List.mem_of_getElem? (i := 2) rfl)) (by decide) (by decide)) (g := (mkF m 33 #[.val (.ref a1), .val (.long q2), .second, .val (.int p3)] [(.ref a1)])) rfl (by rw [hml]; rfl) (Steps.refl _) (a := a1) q26 q26' (argsL := []) (rest := []) (lenOf pd___V rfl) rfl (by show 2 * 0 + _ ≤ _; exact Nat.le_of_eq rfl) (hb hby d7_33) (fun _ _ => ⟨rfl, rfl, (by decide : 0 + 0 ≤ _), (by decide : 0 + 0 ≤ _)⟩)
  dsimp only [Pt.U, Pt.locs, Pt.cells, Pt.slots] at X26 l26 y26 z26 st26 hQ26
  subst l26 y26 z26
  obtain ⟨rfl, N26q, Kr25, Sr25⟩ := hQ26
  have N26 := Fr.app N21 N26q
  have K27 : Keep h0 T26.heap [a1] := K22.trans Kr25 (allS (Or.inl (List.mem_of_getElem? (i := 0) rfl)) all0)
  have E28 : Exa Z T26.heap a1 "com/example/stint/stint/core/SipHash" := E24_a1.keep Kr25
  obtain ⟨t4, hd_t4⟩ : ∃ z : Int64 × Int64 × Int64 × Int64, z = own_rnd (t3.1, t3.2.1, t3.2.2.1, t3.2.2.2) := ⟨_, rfl⟩
  rw [← hd_t4] at Sr25
  obtain ⟨E29_a1, F29_k0_a1, F29_k1_a1, F29_v0_a1, F29_v1_a1, F29_v2_a1, F29_v3_a1⟩ := Sr25
  obtain ⟨cq31, q31, q31'⟩ := E29_a1.cell
  obtain ⟨_, _, ⟨T31, L31, kk31, n31⟩, -, X31, ⟨Lc31, hQ31, l31, y31, z31⟩, st31⟩ := X26.privateBack hx (y := (⟨"com/example/stint/stint/core/SipHash", "round", "()V"⟩ : MethodName)) hown (mvT hZ (hw _ (List.mem_of_getElem? (i := 35) rfl))) (mvT hZ (hw _ (List.mem_of_getElem? (i := 36) rfl))) (mvT hZ (own_sel (hw _ (List.mem_of_getElem? (i := 36) rfl)) (hw _ (List.mem_of_getElem? (i := 37) rfl)) (hw _ (List.mem_of_getElem? (i := 1) rfl)) (by decide))) (Cond.privateMethod_at (mvP hZ (hw _ (List.mem_of_getElem? (i := 37) rfl)) (args := #[]))) (mvT hZ (hw _ (List.mem_of_getElem? (i := 38) rfl))) (by decide) (backOf (W := 0) (rm_round l Z a0 hw [] a1 ka kb (t4.1, t4.2.1, t4.2.2.1, t4.2.2.2) T26.heap n0 (Nat.le_trans Z0 K27.1) ⟨E29_a1, F29_k0_a1, F29_k1_a1, F29_v0_a1, F29_v1_a1, F29_v2_a1, F29_v3_a1⟩ g_a1) hZ (hw _ (List.mem_of_getElem? (i := 38) rfl)) (hw _ (List.mem_of_getElem? (i := 2) rfl)) (by decide) (by decide)) (g := (mkF m 37 #[.val (.ref a1), .val (.long q2), .second, .val (.int p3)] [(.ref a1)])) rfl (by rw [hml]; rfl) (Steps.refl _) (a := a1) q31 q31' (argsL := []) (rest := []) (lenOf pd___V rfl) rfl (by show 2 * 0 + _ ≤ _; exact Nat.le_of_eq rfl) (hb hby d7_37) (fun _ _ => ⟨rfl, rfl, (by decide : 0 + 0 ≤ _), (by decide : 0 + 0 ≤ _)⟩)
  dsimp only [Pt.U, Pt.locs, Pt.cells, Pt.slots] at X31 l31 y31 z31 st31 hQ31
  subst l31 y31 z31
  obtain ⟨rfl, N31q, Kr30, Sr30⟩ := hQ31
  have N31 := Fr.app N26 N31q
  have K32 : Keep h0 T31.heap [a1] := K27.trans Kr30 (allS (Or.inl (List.mem_of_getElem? (i := 0) rfl)) all0)
  have E33 : Exa Z T31.heap a1 "com/example/stint/stint/core/SipHash" := E29_a1.keep Kr30
  obtain ⟨t5, hd_t5⟩ : ∃ z : Int64 × Int64 × Int64 × Int64, z = own_rnd (t4.1, t4.2.1, t4.2.2.1, t4.2.2.2) := ⟨_, rfl⟩
  rw [← hd_t5] at Sr30
  obtain ⟨E34_a1, F34_k0_a1, F34_k1_a1, F34_v0_a1, F34_v1_a1, F34_v2_a1, F34_v3_a1⟩ := Sr30
  obtain ⟨T35, X35, e35, st35⟩ := getF X31 hx hZ hown (host := "") (Or.inl (hw _ (List.mem_of_getElem? (i := 19) rfl))) Via.refl rfl F34_v0_a1 (g := (mkF m 41 #[.val (.ref a1), .val (.long q2), .second, .val (.int p3)] [(.ref a1)])) rfl rfl (hb hby d7_41)
  obtain ⟨T36, X36, e36, st36⟩ := getF X35 hx hZ hown (host := "") (Or.inl (hw _ (List.mem_of_getElem? (i := 22) rfl))) Via.refl e35 F34_v1_a1 (g := (mkF m 45 #[.val (.ref a1), .val (.long q2), .second, .val (.int p3)] [(.ref a1), (.long t5.1)])) rfl rfl (hb hby d7_45)
  obtain ⟨T37, X37, e37, st37⟩ := getF X36 hx hZ hown (host := "") (Or.inl (hw _ (List.mem_of_getElem? (i := 25) rfl))) Via.refl e36 F34_v2_a1 (g := (mkF m 50 #[.val (.ref a1), .val (.long q2), .second, .val (.int p3)] [(.ref a1), (.long (t5.1 ^^^ t5.2.1))])) rfl rfl (hb hby d7_50)
  obtain ⟨T38, X38, e38, st38⟩ := getF X37 hx hZ hown (host := "") (Or.inl (hw _ (List.mem_of_getElem? (i := 28) rfl))) Via.refl e37 F34_v3_a1 (g := (mkF m 55 #[.val (.ref a1), .val (.long q2), .second, .val (.int p3)] [(.ref a1), (.long ((t5.1 ^^^ t5.2.1) ^^^ t5.2.2.1))])) rfl rfl (hb hby d7_55)
  have hv : own_fin sv q2 p3 = (((t5.1 ^^^ t5.2.1) ^^^ t5.2.2.1) ^^^ t5.2.2.2) := by subst hd_t5 hd_t4 hd_t3 hd_t2 hd_t1; rfl
  have k40 : ∀ t, Steps p.tables e below (T38.setTop (mkF m 59 #[.val (.ref a1), .val (.long q2), .second, .val (.int p3)] [(.long (((t5.1 ^^^ t5.2.1) ^^^ t5.2.2.1) ^^^ t5.2.2.2))])) t → Steps p.tables e below (s₁.setTop (entryFrame m #[(.ref a1), (.long q2), (.int p3)] 4)) t := fun t k => k0 t (by
    show Steps p.tables e below (s₁.setTop (mkF m 0 #[.val (.ref a1), .val (.long q2), .second, .val (.int p3)] [])) _
    refine XS.aloadN X0.here hx rfl (hb hby d7_0) rfl rfl ?_
    show Steps p.tables e below (s₁.setTop (mkF m 1 #[.val (.ref a1), .val (.long q2), .second, .val (.int p3)] [(.ref a1)])) _
    refine XS.iloadN X0.here hx rfl (hb hby d7_1) rfl ?_
    show Steps p.tables e below (s₁.setTop (mkF m 2 #[.val (.ref a1), .val (.long q2), .second, .val (.int p3)] [(.int p3), (.ref a1)])) _
    refine XS.i2l X0.here hx rfl (hb hby d7_2) rfl ?_
    show Steps p.tables e below (s₁.setTop (mkF m 3 #[.val (.ref a1), .val (.long q2), .second, .val (.int p3)] [(.long (p3.toInt64)), (.ref a1)])) _
    refine XS.bipush X0.here hx rfl (hb hby d7_3) ?_
    show Steps p.tables e below (s₁.setTop (mkF m 5 #[.val (.ref a1), .val (.long q2), .second, .val (.int p3)] [(.int (56 : Int32)), (.long (p3.toInt64)), (.ref a1)])) _
    refine XS.lshl X0.here hx rfl (hb hby d7_5) rfl ?_
    show Steps p.tables e below (s₁.setTop (mkF m 6 #[.val (.ref a1), .val (.long q2), .second, .val (.int p3)] [(.long ((p3.toInt64) <<< ((56 : Int32) &&& 0x3f).toInt64)), (.ref a1)])) _
    refine XS.lloadN X0.here hx rfl (hb hby d7_6) rfl ?_
    show Steps p.tables e below (s₁.setTop (mkF m 7 #[.val (.ref a1), .val (.long q2), .second, .val (.int p3)] [(.long q2), (.long ((p3.toInt64) <<< ((56 : Int32) &&& 0x3f).toInt64)), (.ref a1)])) _
    refine XS.lor X0.here hx rfl (hb hby d7_7) rfl ?_
    show Steps p.tables e below (s₁.setTop (mkF m 8 #[.val (.ref a1), .val (.long q2), .second, .val (.int p3)] [(.long (((p3.toInt64) <<< ((56 : Int32) &&& 0x3f).toInt64) ||| q2)), (.ref a1)])) _
    refine st1.trans ?_
    show Steps p.tables e below (T1.setTop (mkF m 11 #[.val (.ref a1), .val (.long q2), .second, .val (.int p3)] [(.ref a1)])) _
    refine XS.pop X1.here hx rfl (hb hby d7_11) rfl rfl ?_
    show Steps p.tables e below (T1.setTop (mkF m 12 #[.val (.ref a1), .val (.long q2), .second, .val (.int p3)] [])) _
    refine XS.aloadN X1.here hx rfl (hb hby d7_12) rfl rfl ?_
    show Steps p.tables e below (T1.setTop (mkF m 13 #[.val (.ref a1), .val (.long q2), .second, .val (.int p3)] [(.ref a1)])) _
    refine XS.dup X1.here hx rfl (hb hby d7_13) rfl rfl ?_
    show Steps p.tables e below (T1.setTop (mkF m 14 #[.val (.ref a1), .val (.long q2), .second, .val (.int p3)] [(.ref a1), (.ref a1)])) _
    refine st5 _ ?_
    show Steps p.tables e below (T5.setTop (mkF m 17 #[.val (.ref a1), .val (.long q2), .second, .val (.int p3)] [(.long t1.2.2.1), (.ref a1)])) _
    refine X5.ldc2Long hx hown (mvT hZ (hw _ (List.mem_of_getElem? (i := 49) rfl))) (g := (mkF m 17 #[.val (.ref a1), .val (.long q2), .second, .val (.int p3)] [(.long t1.2.2.1), (.ref a1)])) rfl (hb hby d7_17) _ ?_
    show Steps p.tables e below (T5.setTop (mkF m 20 #[.val (.ref a1), .val (.long q2), .second, .val (.int p3)] [(.long (255 : Int64)), (.long t1.2.2.1), (.ref a1)])) _
    refine XS.lxor X5.here hx rfl (hb hby d7_20) rfl ?_
    show Steps p.tables e below (T5.setTop (mkF m 21 #[.val (.ref a1), .val (.long q2), .second, .val (.int p3)] [(.long (t1.2.2.1 ^^^ (255 : Int64))), (.ref a1)])) _
    refine st6 _ ?_
    show Steps p.tables e below (T6.setTop (mkF m 24 #[.val (.ref a1), .val (.long q2), .second, .val (.int p3)] [])) _
    refine XS.aloadN X6.here hx rfl (hb hby d7_24) rfl rfl ?_
    show Steps p.tables e below (T6.setTop (mkF m 25 #[.val (.ref a1), .val (.long q2), .second, .val (.int p3)] [(.ref a1)])) _
    refine st16.trans ?_
    show Steps p.tables e below (T16.setTop (mkF m 28 #[.val (.ref a1), .val (.long q2), .second, .val (.int p3)] [])) _
    refine XS.aloadN X16.here hx rfl (hb hby d7_28) rfl rfl ?_
    show Steps p.tables e below (T16.setTop (mkF m 29 #[.val (.ref a1), .val (.long q2), .second, .val (.int p3)] [(.ref a1)])) _
    refine st21.trans ?_
    show Steps p.tables e below (T21.setTop (mkF m 32 #[.val (.ref a1), .val (.long q2), .second, .val (.int p3)] [])) _
    refine XS.aloadN X21.here hx rfl (hb hby d7_32) rfl rfl ?_
    show Steps p.tables e below (T21.setTop (mkF m 33 #[.val (.ref a1), .val (.long q2), .second, .val (.int p3)] [(.ref a1)])) _
    refine st26.trans ?_
    show Steps p.tables e below (T26.setTop (mkF m 36 #[.val (.ref a1), .val (.long q2), .second, .val (.int p3)] [])) _
    refine XS.aloadN X26.here hx rfl (hb hby d7_36) rfl rfl ?_
    show Steps p.tables e below (T26.setTop (mkF m 37 #[.val (.ref a1), .val (.long q2), .second, .val (.int p3)] [(.ref a1)])) _
    refine st31.trans ?_
    show Steps p.tables e below (T31.setTop (mkF m 40 #[.val (.ref a1), .val (.long q2), .second, .val (.int p3)] [])) _
    refine XS.aloadN X31.here hx rfl (hb hby d7_40) rfl rfl ?_
    show Steps p.tables e below (T31.setTop (mkF m 41 #[.val (.ref a1), .val (.long q2), .second, .val (.int p3)] [(.ref a1)])) _
    refine st35 _ ?_
    show Steps p.tables e below (T35.setTop (mkF m 44 #[.val (.ref a1), .val (.long q2), .second, .val (.int p3)] [(.long t5.1)])) _
    refine XS.aloadN X35.here hx rfl (hb hby d7_44) rfl rfl ?_
    show Steps p.tables e below (T35.setTop (mkF m 45 #[.val (.ref a1), .val (.long q2), .second, .val (.int p3)] [(.ref a1), (.long t5.1)])) _
    refine st36 _ ?_
    show Steps p.tables e below (T36.setTop (mkF m 48 #[.val (.ref a1), .val (.long q2), .second, .val (.int p3)] [(.long t5.2.1), (.long t5.1)])) _
    refine XS.lxor X36.here hx rfl (hb hby d7_48) rfl ?_
    show Steps p.tables e below (T36.setTop (mkF m 49 #[.val (.ref a1), .val (.long q2), .second, .val (.int p3)] [(.long (t5.1 ^^^ t5.2.1))])) _
    refine XS.aloadN X36.here hx rfl (hb hby d7_49) rfl rfl ?_
    show Steps p.tables e below (T36.setTop (mkF m 50 #[.val (.ref a1), .val (.long q2), .second, .val (.int p3)] [(.ref a1), (.long (t5.1 ^^^ t5.2.1))])) _
    refine st37 _ ?_
    show Steps p.tables e below (T37.setTop (mkF m 53 #[.val (.ref a1), .val (.long q2), .second, .val (.int p3)] [(.long t5.2.2.1), (.long (t5.1 ^^^ t5.2.1))])) _
    refine XS.lxor X37.here hx rfl (hb hby d7_53) rfl ?_
    show Steps p.tables e below (T37.setTop (mkF m 54 #[.val (.ref a1), .val (.long q2), .second, .val (.int p3)] [(.long ((t5.1 ^^^ t5.2.1) ^^^ t5.2.2.1))])) _
    refine XS.aloadN X37.here hx rfl (hb hby d7_54) rfl rfl ?_
    show Steps p.tables e below (T37.setTop (mkF m 55 #[.val (.ref a1), .val (.long q2), .second, .val (.int p3)] [(.ref a1), (.long ((t5.1 ^^^ t5.2.1) ^^^ t5.2.2.1))])) _
    refine st38 _ ?_
    show Steps p.tables e below (T38.setTop (mkF m 58 #[.val (.ref a1), .val (.long q2), .second, .val (.int p3)] [(.long t5.2.2.2), (.long ((t5.1 ^^^ t5.2.1) ^^^ t5.2.2.1))])) _
    refine XS.lxor X38.here hx rfl (hb hby d7_58) rfl ?_
    exact k)
  obtain ⟨fs, hr, hrun, hended, hW, hsame⟩ := X38.leave (v := some (.long (((t5.1 ^^^ t5.2.1) ^^^ t5.2.2.1) ^^^ t5.2.2.2))) (fun h => by rw [Bd.returns] at h; cases h)
  refine ⟨_, _, k40 _ ?_, hrun, hended, _, _, rfl, ?_, ⟨_, rfl⟩, hW, hsame.mono (by decide) (by decide)⟩
  · show Steps p.tables e below (T38.setTop (mkF m 59 #[.val (.ref a1), .val (.long q2), .second, .val (.int p3)] [(.long (((t5.1 ^^^ t5.2.1) ^^^ t5.2.2.1) ^^^ t5.2.2.2))])) _
    exact X38.lreturnOut hx Bd.returns (hb hby d7_59) hr
  ·
    show Qfinish _ a1 q2 p3 ka kb sv h0 n0 _ T38.heap _
    rw [e38]
    exact ⟨by rw [hv], N31, K32, ⟨t5, ⟨E34_a1, F34_k0_a1, F34_k1_a1, F34_v0_a1, F34_v1_a1, F34_v2_a1, F34_v3_a1⟩⟩⟩
theorem own_e0 : own_fin (own_ini (506097522914230528 : Int64) (1084818905618843912 : Int64)) (0 : Int64) (0 : Int32) = (8246050544436514353 : Int64) := by decide +kernel
theorem own_e1 : own_fin (own_ini (506097522914230528 : Int64) (1084818905618843912 : Int64)) (0 : Int64) (1 : Int32) = (8428550223375919101 : Int64) := by decide +kernel
theorem pd__JJ_V : parseMethodDescriptor "(JJ)V" = some ⟨[.long, .long], none⟩ := by decide +kernel
theorem pd___Lcom_example_stint_stint_core_SipHash_ : parseMethodDescriptor "()Lcom/example/stint/stint/core/SipHash;" = some ⟨[], some (.object "com/example/stint/stint/core/SipHash")⟩ := by decide +kernel
theorem pn_0 : plainName "com/example/stint/stint/core/SipHashStartPinLaw" = true := by first | (simp [plainName, overriddenIn]; done) | decide +kernel
theorem ef_law (m : MethodId) (x0 : Int64) (x1 : Int64) (x2 : Int64) (x3 : Int64) (x4 : Int32) : entryFrame m #[(.long x0), (.long x1), (.long x2), (.long x3), (.int x4)] maxLocals = mkF m 0 #[.val (.long x0), .second, .val (.long x1), .second, .val (.long x2), .second, .val (.long x3), .second, .val (.int x4), .unset, .unset, .unset, .unset, .unset, .unset, .unset, .unset, .unset, .unset, .unset, .unset] [] := by first | (simp [entryFrame, mkF, argsToLocals, Value.category, maxLocals]; done) | rfl
def Qlaw (Z : State) (q1 : Int64) (q2 : Int64) (q3 : Int64) (q4 : Int64) (p5 : Int32) (h0 : Heap) (n0 : Nat) (v : Option Value) (h : Heap) (L : List Loc) : Prop := v = some (.int (1 : Int32)) ∧ Fr n0 L
set_option maxRecDepth 65536 in
set_option maxHeartbeats 40000000 in
theorem rm_law (l : Launch) (Z : State) (a0 : Array Value) (hw : ∀ d ∈ tables_1, d.before a0 Z = true) (ws : List Jvm.Cond) (q1 : Int64) (q2 : Int64) (q3 : Int64) (q4 : Int64) (p5 : Int32) (h0 : Heap) (n0 : Nat) (Z0 : n0 ≤ h0.size) :
    MetFree l x (head1 (Jvm.Cond.code x code maxLocals ret :: ws) room_1) (fun a U => a = #[(.long q1), (.long q2), (.long q3), (.long q4), (.int p5)] ∧ Z.Warmed39 U.vm ∧ U.heap = h0) (fun _ _ _ _ _ => True) (fun _ U o U' => ∃ v L, o = .returned v ∧ Qlaw Z q1 q2 q3 q4 p5 h0 n0 v U'.heap L ∧ FrameEnd U o U' L room_1.cells room_1.slots) := by
  refine MetFree.of_bodySF (plainFor_of_name pn_0) hisR ?_
  intro p e s m args below meth c s₁ Bd hml0 hP hK
  obtain ⟨rfl, hZ, hh⟩ := hP
  have hx := Bd.exec
  have hby := Bd.bytes
  have hml : c.maxLocals = 21 := hml0
  have hown : s.vm.findClass "com/example/stint/stint/core/SipHashStartPinLaw" = some m.cls := findClass_of_methodNamed Bd.named
  have hnm := (name_of_methodNamed Bd.named Bd.method).1
  have X0 : Stand p l e room_1 s m #[(.long q1), (.long q2), (.long q3), (.long q4), (.int p5)] below meth c s₁ [] 0 0 := Stand.of_body Bd
  have e0 : s₁.heap = h0 := by rw [← hh, Bd.state]; rfl
  have N0 := Fr.nil n0
  have k0 : ∀ t, Steps p.tables e below (s₁.setTop (mkF m 0 #[.val (.long q1), .second, .val (.long q2), .second, .val (.long q3), .second, .val (.long q4), .second, .val (.int p5), .unset, .unset, .unset, .unset, .unset, .unset, .unset, .unset, .unset, .unset, .unset, .unset] [])) t → Steps p.tables e below (s₁.setTop (entryFrame m #[(.long q1), (.long q2), (.long q3), (.long q4), (.int p5)] maxLocals)) t := fun t k => castTop (ef_law m q1 q2 q3 q4 p5) k
  obtain ⟨T1, h1, X1, e1, Ex1, A1, D1, -, st1⟩ := newO X0 hx hZ hown (hw _ (List.mem_of_getElem? (i := 0) rfl)) (hw _ (List.mem_of_getElem? (i := 1) rfl)) (hw _ (List.mem_of_getElem? (i := 2) rfl)) e0 (g := (mkF m 0 #[.val (.long q1), .second, .val (.long q2), .second, .val (.long q3), .second, .val (.long q4), .second, .val (.int p5), .unset, .unset, .unset, .unset, .unset, .unset, .unset, .unset, .unset, .unset, .unset, .unset] [])) rfl (hb hby at_0) (by decide) (by decide)
  obtain ⟨b1, g1⟩ : ∃ z, z = h0.size := ⟨_, rfl⟩
  rw [← g1] at A1 D1 st1
  have sz_b1 : h0.size ≤ b1 := Nat.le_trans (Keep.refl h0 []).1 (Nat.le_of_eq g1.symm)
  have g_b1 : n0 ≤ b1 := Nat.le_trans Z0 sz_b1
  have E2 : Exa Z h1 b1 "com/example/stint/stint/core/SipHash" := A1
  have F3 : Fld Z h1 b1 "com/example/stint/stint/core/SipHash" "k0" "J" (.long (0 : Int64)) := D1 (Or.inr (hw _ (List.mem_of_getElem? (i := 10) rfl))) (ty := .long) (by decide)
  have F4 : Fld Z h1 b1 "com/example/stint/stint/core/SipHash" "k1" "J" (.long (0 : Int64)) := D1 (Or.inr (hw _ (List.mem_of_getElem? (i := 12) rfl))) (ty := .long) (by decide)
  have F5 : Fld Z h1 b1 "com/example/stint/stint/core/SipHash" "v0" "J" (.long (0 : Int64)) := D1 (Or.inl (hw _ (List.mem_of_getElem? (i := 20) rfl))) (ty := .long) (by decide)
  have F6 : Fld Z h1 b1 "com/example/stint/stint/core/SipHash" "v1" "J" (.long (0 : Int64)) := D1 (Or.inl (hw _ (List.mem_of_getElem? (i := 23) rfl))) (ty := .long) (by decide)
  have F7 : Fld Z h1 b1 "com/example/stint/stint/core/SipHash" "v2" "J" (.long (0 : Int64)) := D1 (Or.inl (hw _ (List.mem_of_getElem? (i := 26) rfl))) (ty := .long) (by decide)
  have F8 : Fld Z h1 b1 "com/example/stint/stint/core/SipHash" "v3" "J" (.long (0 : Int64)) := D1 (Or.inl (hw _ (List.mem_of_getElem? (i := 29) rfl))) (ty := .long) (by decide)
  have K9 : Keep h0 h1 [] := (Keep.refl h0 []).ext Ex1
  obtain ⟨_, _, ⟨T10, L10, kk10, n10⟩, -, X10, ⟨Lc10, hQ10, l10, y10, z10⟩, st10⟩ := X1.specialBack hx (y := (⟨"com/example/stint/stint/core/SipHash", "<init>", "(JJ)V"⟩ : MethodName)) rfl hown (mvT hZ (hw _ (List.mem_of_getElem? (i := 3) rfl))) (mvT hZ (hw _ (List.mem_of_getElem? (i := 4) rfl))) (mvT hZ (hw _ (List.mem_of_getElem? (i := 5) rfl))) (by decide) (backOf (W := 1) (rm_init l Z a0 hw [] b1 q1 q2 h1 n0 (Nat.le_trans Z0 K9.1) E2 F3 F4 F5 F6 F7 F8 g_b1) hZ (hw _ (List.mem_of_getElem? (i := 5) rfl)) (hw _ (List.mem_of_getElem? (i := 2) rfl)) (by decide) (by decide)) (g := (mkF m 6 #[.val (.long q1), .second, .val (.long q2), .second, .val (.long q3), .second, .val (.long q4), .second, .val (.int p5), .unset, .unset, .unset, .unset, .unset, .unset, .unset, .unset, .unset, .unset, .unset, .unset] [(.long q2), (.long q1), (.ref b1), (.ref b1)])) rfl (by rw [hml]; rfl) (Steps.refl _) (a := b1) (argsL := [(.long q1), (.long q2)]) (rest := [(.ref b1)]) (lenOf pd__JJ_V rfl) rfl (by show 2 * 0 + _ ≤ _; exact Nat.le_of_eq rfl) (hb hby at_6) (fun _ _ => ⟨rfl, e1, (by decide : 1 + 0 ≤ _), (by decide : 6 + 0 ≤ _)⟩)
  dsimp only [Pt.U, Pt.locs, Pt.cells, Pt.slots] at X10 l10 y10 z10 st10 hQ10
  subst l10 y10 z10
  obtain ⟨rfl, N10q, Km1, Sm1⟩ := hQ10
  have N10 := Fr.app N0 N10q
  have K11 : Keep h0 T10.heap [] := K9.trans Km1 (allS (Or.inr sz_b1) all0)
  have E12 : Exa Z T10.heap b1 "com/example/stint/stint/core/SipHash" := E2.keep Km1
  have E13 : Exa Z T10.heap b1 "com/example/stint/stint/core/SipHash" := Sm1.1
  obtain ⟨cq14, kq14, q14a, q14b, q14c⟩ := isOf hZ rfl E13
  obtain ⟨_, _, ⟨T14, L14, kk14, n14⟩, -, X14, ⟨Lc14, hQ14, l14, y14, z14⟩, st14⟩ := X10.virtualBack hx (y := (⟨"com/example/stint/stint/core/SipHash", "start", "()Lcom/example/stint/stint/core/SipHash;"⟩ : MethodName)) (z := (⟨"com/example/stint/stint/core/SipHash", "start", "()Lcom/example/stint/stint/core/SipHash;"⟩ : MethodName)) hown (mvT hZ (hw _ (List.mem_of_getElem? (i := 13) rfl))) (mvT hZ (hw _ (List.mem_of_getElem? (i := 14) rfl))) (notFace_of_selects (args := #[]) (mvT hZ (hw _ (List.mem_of_getElem? (i := 16) rfl)))) (mvT hZ (hw _ (List.mem_of_getElem? (i := 16) rfl))) (mvT hZ (hw _ (List.mem_of_getElem? (i := 15) rfl))) (by decide) (backOf (W := 0) (rm_start l Z a0 hw [] b1 q1 q2 ((0 : Int64), (0 : Int64), (0 : Int64), (0 : Int64)) T10.heap n0 (Nat.le_trans Z0 K11.1) Sm1 g_b1) hZ (hw _ (List.mem_of_getElem? (i := 17) rfl)) (hw _ (List.mem_of_getElem? (i := 2) rfl)) (by decide) (by decide)) q14a q14c (g := (mkF m 13 #[.val (.long q1), .second, .val (.long q2), .second, .val (.long q3), .second, .val (.long q4), .second, .val (.int p5), .val (.ref b1), .unset, .unset, .unset, .unset, .unset, .unset, .unset, .unset, .unset, .unset, .unset] [(.ref b1)])) rfl (by rw [hml]; rfl) (Steps.refl _) (argsL := []) (rest := []) (lenOf pd___Lcom_example_stint_stint_core_SipHash_ rfl) rfl (by show 2 * 0 + _ ≤ _; exact Nat.le_of_eq rfl) (hb hby at_13) (fun _ _ => ⟨rfl, rfl, (by decide : 1 + 0 ≤ _), (by decide : 6 + 0 ≤ _)⟩)
  dsimp only [Pt.U, Pt.locs, Pt.cells, Pt.slots] at X14 l14 y14 z14 st14 hQ14
  subst l14 y14 z14
  obtain ⟨rfl, N14q, Ks2, Ss2⟩ := hQ14
  have N14 := Fr.app N10 N14q
  have K15 : Keep h0 T14.heap [] := K11.trans Ks2 (allS (Or.inr sz_b1) all0)
  have E16 : Exa Z T14.heap b1 "com/example/stint/stint/core/SipHash" := E13.keep Ks2
  have E17 : Exa Z T14.heap b1 "com/example/stint/stint/core/SipHash" := Ss2.1
  obtain ⟨cq18, kq18, q18a, q18b, q18c⟩ := isOf hZ rfl E17
  obtain ⟨_, _, ⟨T18, L18, kk18, n18⟩, -, X18, ⟨Lc18, hQ18, l18, y18, z18⟩, st18⟩ := X14.virtualBack hx (y := (⟨"com/example/stint/stint/core/SipHash", "add", "(J)Lcom/example/stint/stint/core/SipHash;"⟩ : MethodName)) (z := (⟨"com/example/stint/stint/core/SipHash", "add", "(J)Lcom/example/stint/stint/core/SipHash;"⟩ : MethodName)) hown (mvT hZ (hw _ (List.mem_of_getElem? (i := 30) rfl))) (mvT hZ (hw _ (List.mem_of_getElem? (i := 31) rfl))) (notFace_of_selects (args := #[]) (mvT hZ (hw _ (List.mem_of_getElem? (i := 33) rfl)))) (mvT hZ (hw _ (List.mem_of_getElem? (i := 33) rfl))) (mvT hZ (hw _ (List.mem_of_getElem? (i := 32) rfl))) (by decide) (backOf (W := 0) (rm_add l Z a0 hw [] b1 q3 q1 q2 (own_ini q1 q2) T14.heap n0 (Nat.le_trans Z0 K15.1) Ss2 g_b1) hZ (hw _ (List.mem_of_getElem? (i := 34) rfl)) (hw _ (List.mem_of_getElem? (i := 2) rfl)) (by decide) (by decide)) q18a q18c (g := (mkF m 36 #[.val (.long q1), .second, .val (.long q2), .second, .val (.long q3), .second, .val (.long q4), .second, .val (.int p5), .val (.ref b1), .val (.ref b1), .val (.int (1 : Int32)), .unset, .unset, .unset, .unset, .unset, .unset, .unset, .unset, .unset] [(.long q3), (.ref b1)])) rfl (by rw [hml]; rfl) (Steps.refl _) (argsL := [(.long q3)]) (rest := []) (lenOf pd__J_Lcom_example_stint_stint_core_SipHash_ rfl) rfl (by show 2 * 0 + _ ≤ _; exact Nat.le_of_eq rfl) (hb hby at_36) (fun _ _ => ⟨rfl, rfl, (by decide : 1 + 0 ≤ _), (by decide : 6 + 0 ≤ _)⟩)
  dsimp only [Pt.U, Pt.locs, Pt.cells, Pt.slots] at X18 l18 y18 z18 st18 hQ18
  subst l18 y18 z18
  obtain ⟨rfl, N18q, Kad, Sad⟩ := hQ18
  have N18 := Fr.app N14 N18q
  have K19 : Keep h0 T18.heap [] := K15.trans Kad (allS (Or.inr sz_b1) all0)
  have E20 : Exa Z T18.heap b1 "com/example/stint/stint/core/SipHash" := E17.keep Kad
  have E21 : Exa Z T18.heap b1 "com/example/stint/stint/core/SipHash" := Sad.1
  obtain ⟨cq22, kq22, q22a, q22b, q22c⟩ := isOf hZ rfl E21
  obtain ⟨_, _, ⟨T22, L22, kk22, n22⟩, -, X22, ⟨Lc22, hQ22, l22, y22, z22⟩, st22⟩ := X18.virtualBack hx (y := (⟨"com/example/stint/stint/core/SipHash", "start", "()Lcom/example/stint/stint/core/SipHash;"⟩ : MethodName)) (z := (⟨"com/example/stint/stint/core/SipHash", "start", "()Lcom/example/stint/stint/core/SipHash;"⟩ : MethodName)) hown (mvT hZ (hw _ (List.mem_of_getElem? (i := 13) rfl))) (mvT hZ (hw _ (List.mem_of_getElem? (i := 14) rfl))) (notFace_of_selects (args := #[]) (mvT hZ (hw _ (List.mem_of_getElem? (i := 16) rfl)))) (mvT hZ (hw _ (List.mem_of_getElem? (i := 16) rfl))) (mvT hZ (hw _ (List.mem_of_getElem? (i := 15) rfl))) (by decide) (backOf (W := 0) (rm_start l Z a0 hw [] b1 q1 q2 (own_add (own_ini q1 q2) q3) T18.heap n0 (Nat.le_trans Z0 K19.1) Sad g_b1) hZ (hw _ (List.mem_of_getElem? (i := 17) rfl)) (hw _ (List.mem_of_getElem? (i := 2) rfl)) (by decide) (by decide)) q22a q22c (g := (mkF m 42 #[.val (.long q1), .second, .val (.long q2), .second, .val (.long q3), .second, .val (.long q4), .second, .val (.int p5), .val (.ref b1), .val (.ref b1), .val (.int (1 : Int32)), .unset, .unset, .unset, .unset, .unset, .unset, .unset, .unset, .unset] [(.ref b1)])) rfl (by rw [hml]; rfl) (Steps.refl _) (argsL := []) (rest := []) (lenOf pd___Lcom_example_stint_stint_core_SipHash_ rfl) rfl (by show 2 * 0 + _ ≤ _; exact Nat.le_of_eq rfl) (hb hby at_42) (fun _ _ => ⟨rfl, rfl, (by decide : 1 + 0 ≤ _), (by decide : 6 + 0 ≤ _)⟩)
  dsimp only [Pt.U, Pt.locs, Pt.cells, Pt.slots] at X22 l22 y22 z22 st22 hQ22
  subst l22 y22 z22
  obtain ⟨rfl, N22q, Ks3, Ss3⟩ := hQ22
  have N22 := Fr.app N18 N22q
  have K23 : Keep h0 T22.heap [] := K19.trans Ks3 (allS (Or.inr sz_b1) all0)
  have E24 : Exa Z T22.heap b1 "com/example/stint/stint/core/SipHash" := E21.keep Ks3
  have E25 : Exa Z T22.heap b1 "com/example/stint/stint/core/SipHash" := Ss3.1
  obtain ⟨cq26, kq26, q26a, q26b, q26c⟩ := isOf hZ rfl E25
  obtain ⟨_, _, ⟨T26, L26, kk26, n26⟩, -, X26, ⟨Lc26, hQ26, l26, y26, z26⟩, st26⟩ := X22.virtualBack hx (y := (⟨"com/example/stint/stint/core/SipHash", "finish", "(JI)J"⟩ : MethodName)) (z := (⟨"com/example/stint/stint/core/SipHash", "finish", "(JI)J"⟩ : MethodName)) hown (mvT hZ (hw _ (List.mem_of_getElem? (i := 43) rfl))) (mvT hZ (hw _ (List.mem_of_getElem? (i := 44) rfl))) (notFace_of_selects (args := #[]) (mvT hZ (hw _ (List.mem_of_getElem? (i := 46) rfl)))) (mvT hZ (hw _ (List.mem_of_getElem? (i := 46) rfl))) (mvT hZ (hw _ (List.mem_of_getElem? (i := 45) rfl))) (by decide) (backOf (W := 0) (rm_finish l Z a0 hw [] b1 q4 p5 q1 q2 (own_ini q1 q2) T22.heap n0 (Nat.le_trans Z0 K23.1) Ss3 g_b1) hZ (hw _ (List.mem_of_getElem? (i := 47) rfl)) (hw _ (List.mem_of_getElem? (i := 2) rfl)) (by decide) (by decide)) q26a q26c (g := (mkF m 52 #[.val (.long q1), .second, .val (.long q2), .second, .val (.long q3), .second, .val (.long q4), .second, .val (.int p5), .val (.ref b1), .val (.ref b1), .val (.int (1 : Int32)), .unset, .unset, .unset, .unset, .unset, .unset, .unset, .unset, .unset] [(.int p5), (.long q4), (.ref b1)])) rfl (by rw [hml]; rfl) (Steps.refl _) (argsL := [(.long q4), (.int p5)]) (rest := []) (lenOf pd__JI_J rfl) rfl (by show 2 * 0 + _ ≤ _; exact Nat.le_of_eq rfl) (hb hby at_52) (fun _ _ => ⟨rfl, rfl, (by decide : 1 + 0 ≤ _), (by decide : 6 + 0 ≤ _)⟩)
  dsimp only [Pt.U, Pt.locs, Pt.cells, Pt.slots] at X26 l26 y26 z26 st26 hQ26
  subst l26 y26 z26
  obtain ⟨rfl, N26q, Kf4, ⟨tf4, Sf4⟩⟩ := hQ26
  have N26 := Fr.app N22 N26q
  have K27 : Keep h0 T26.heap [] := K23.trans Kf4 (allS (Or.inr sz_b1) all0)
  have E28 : Exa Z T26.heap b1 "com/example/stint/stint/core/SipHash" := E25.keep Kf4
  have E29 : Exa Z T26.heap b1 "com/example/stint/stint/core/SipHash" := Sf4.1
  obtain ⟨T30, h30, X30, e30, Ex30, A30, D30, -, st30⟩ := newO X26 hx hZ hown (hw _ (List.mem_of_getElem? (i := 0) rfl)) (hw _ (List.mem_of_getElem? (i := 1) rfl)) (hw _ (List.mem_of_getElem? (i := 2) rfl)) rfl (g := (mkF m 57 #[.val (.long q1), .second, .val (.long q2), .second, .val (.long q3), .second, .val (.long q4), .second, .val (.int p5), .val (.ref b1), .val (.ref b1), .val (.int (1 : Int32)), .val (.long (own_fin (own_ini q1 q2) q4 p5)), .second, .unset, .unset, .unset, .unset, .unset, .unset, .unset] [])) rfl (hb hby at_57) (by decide) (by decide)
  obtain ⟨b30, g30⟩ : ∃ z, z = T26.heap.size := ⟨_, rfl⟩
  rw [← g30] at A30 D30 st30
  have sz_b30 : h0.size ≤ b30 := Nat.le_trans K27.1 (Nat.le_of_eq g30.symm)
  have g_b30 : n0 ≤ b30 := Nat.le_trans Z0 sz_b30
  have E31 : Exa Z h30 b30 "com/example/stint/stint/core/SipHash" := A30
  have F32 : Fld Z h30 b30 "com/example/stint/stint/core/SipHash" "k0" "J" (.long (0 : Int64)) := D30 (Or.inr (hw _ (List.mem_of_getElem? (i := 10) rfl))) (ty := .long) (by decide)
  have F33 : Fld Z h30 b30 "com/example/stint/stint/core/SipHash" "k1" "J" (.long (0 : Int64)) := D30 (Or.inr (hw _ (List.mem_of_getElem? (i := 12) rfl))) (ty := .long) (by decide)
  have F34 : Fld Z h30 b30 "com/example/stint/stint/core/SipHash" "v0" "J" (.long (0 : Int64)) := D30 (Or.inl (hw _ (List.mem_of_getElem? (i := 20) rfl))) (ty := .long) (by decide)
  have F35 : Fld Z h30 b30 "com/example/stint/stint/core/SipHash" "v1" "J" (.long (0 : Int64)) := D30 (Or.inl (hw _ (List.mem_of_getElem? (i := 23) rfl))) (ty := .long) (by decide)
  have F36 : Fld Z h30 b30 "com/example/stint/stint/core/SipHash" "v2" "J" (.long (0 : Int64)) := D30 (Or.inl (hw _ (List.mem_of_getElem? (i := 26) rfl))) (ty := .long) (by decide)
  have F37 : Fld Z h30 b30 "com/example/stint/stint/core/SipHash" "v3" "J" (.long (0 : Int64)) := D30 (Or.inl (hw _ (List.mem_of_getElem? (i := 29) rfl))) (ty := .long) (by decide)
  have K38 : Keep h0 h30 [] := K27.ext Ex30
  obtain ⟨_, _, ⟨T39, L39, kk39, n39⟩, -, X39, ⟨Lc39, hQ39, l39, y39, z39⟩, st39⟩ := X30.specialBack hx (y := (⟨"com/example/stint/stint/core/SipHash", "<init>", "(JJ)V"⟩ : MethodName)) rfl hown (mvT hZ (hw _ (List.mem_of_getElem? (i := 3) rfl))) (mvT hZ (hw _ (List.mem_of_getElem? (i := 4) rfl))) (mvT hZ (hw _ (List.mem_of_getElem? (i := 5) rfl))) (by decide) (backOf (W := 1) (rm_init l Z a0 hw [] b30 q1 q2 h30 n0 (Nat.le_trans Z0 K38.1) E31 F32 F33 F34 F35 F36 F37 g_b30) hZ (hw _ (List.mem_of_getElem? (i := 5) rfl)) (hw _ (List.mem_of_getElem? (i := 2) rfl)) (by decide) (by decide)) (g := (mkF m 63 #[.val (.long q1), .second, .val (.long q2), .second, .val (.long q3), .second, .val (.long q4), .second, .val (.int p5), .val (.ref b1), .val (.ref b1), .val (.int (1 : Int32)), .val (.long (own_fin (own_ini q1 q2) q4 p5)), .second, .unset, .unset, .unset, .unset, .unset, .unset, .unset] [(.long q2), (.long q1), (.ref b30), (.ref b30)])) rfl (by rw [hml]; rfl) (Steps.refl _) (a := b30) (argsL := [(.long q1), (.long q2)]) (rest := [(.ref b30)]) (lenOf pd__JJ_V rfl) rfl (by show 2 * 0 + _ ≤ _; exact Nat.le_of_eq rfl) (hb hby at_63) (fun _ _ => ⟨rfl, e30, (by decide : 2 + 0 ≤ _), (by decide : 12 + 0 ≤ _)⟩)
  dsimp only [Pt.U, Pt.locs, Pt.cells, Pt.slots] at X39 l39 y39 z39 st39 hQ39
  subst l39 y39 z39
  obtain ⟨rfl, N39q, Km5, Sm5⟩ := hQ39
  have N39 := Fr.app N26 N39q
  have K40 : Keep h0 T39.heap [] := K38.trans Km5 (allS (Or.inr sz_b30) all0)
  have E41 : Exa Z T39.heap b30 "com/example/stint/stint/core/SipHash" := E31.keep Km5
  have E42 : Exa Z T39.heap b30 "com/example/stint/stint/core/SipHash" := Sm5.1
  obtain ⟨cq43, kq43, q43a, q43b, q43c⟩ := isOf hZ rfl E42
  obtain ⟨_, _, ⟨T43, L43, kk43, n43⟩, -, X43, ⟨Lc43, hQ43, l43, y43, z43⟩, st43⟩ := X39.virtualBack hx (y := (⟨"com/example/stint/stint/core/SipHash", "start", "()Lcom/example/stint/stint/core/SipHash;"⟩ : MethodName)) (z := (⟨"com/example/stint/stint/core/SipHash", "start", "()Lcom/example/stint/stint/core/SipHash;"⟩ : MethodName)) hown (mvT hZ (hw _ (List.mem_of_getElem? (i := 13) rfl))) (mvT hZ (hw _ (List.mem_of_getElem? (i := 14) rfl))) (notFace_of_selects (args := #[]) (mvT hZ (hw _ (List.mem_of_getElem? (i := 16) rfl)))) (mvT hZ (hw _ (List.mem_of_getElem? (i := 16) rfl))) (mvT hZ (hw _ (List.mem_of_getElem? (i := 15) rfl))) (by decide) (backOf (W := 0) (rm_start l Z a0 hw [] b30 q1 q2 ((0 : Int64), (0 : Int64), (0 : Int64), (0 : Int64)) T39.heap n0 (Nat.le_trans Z0 K40.1) Sm5 g_b30) hZ (hw _ (List.mem_of_getElem? (i := 17) rfl)) (hw _ (List.mem_of_getElem? (i := 2) rfl)) (by decide) (by decide)) q43a q43c (g := (mkF m 66 #[.val (.long q1), .second, .val (.long q2), .second, .val (.long q3), .second, .val (.long q4), .second, .val (.int p5), .val (.ref b1), .val (.ref b1), .val (.int (1 : Int32)), .val (.long (own_fin (own_ini q1 q2) q4 p5)), .second, .unset, .unset, .unset, .unset, .unset, .unset, .unset] [(.ref b30)])) rfl (by rw [hml]; rfl) (Steps.refl _) (argsL := []) (rest := []) (lenOf pd___Lcom_example_stint_stint_core_SipHash_ rfl) rfl (by show 2 * 0 + _ ≤ _; exact Nat.le_of_eq rfl) (hb hby at_66) (fun _ _ => ⟨rfl, rfl, (by decide : 2 + 0 ≤ _), (by decide : 12 + 0 ≤ _)⟩)
  dsimp only [Pt.U, Pt.locs, Pt.cells, Pt.slots] at X43 l43 y43 z43 st43 hQ43
  subst l43 y43 z43
  obtain ⟨rfl, N43q, Ks6, Ss6⟩ := hQ43
  have N43 := Fr.app N39 N43q
  have K44 : Keep h0 T43.heap [] := K40.trans Ks6 (allS (Or.inr sz_b30) all0)
  have E45 : Exa Z T43.heap b30 "com/example/stint/stint/core/SipHash" := E42.keep Ks6
  have E46 : Exa Z T43.heap b30 "com/example/stint/stint/core/SipHash" := Ss6.1
  obtain ⟨cq47, kq47, q47a, q47b, q47c⟩ := isOf hZ rfl E46
  obtain ⟨_, _, ⟨T47, L47, kk47, n47⟩, -, X47, ⟨Lc47, hQ47, l47, y47, z47⟩, st47⟩ := X43.virtualBack hx (y := (⟨"com/example/stint/stint/core/SipHash", "finish", "(JI)J"⟩ : MethodName)) (z := (⟨"com/example/stint/stint/core/SipHash", "finish", "(JI)J"⟩ : MethodName)) hown (mvT hZ (hw _ (List.mem_of_getElem? (i := 43) rfl))) (mvT hZ (hw _ (List.mem_of_getElem? (i := 44) rfl))) (notFace_of_selects (args := #[]) (mvT hZ (hw _ (List.mem_of_getElem? (i := 46) rfl)))) (mvT hZ (hw _ (List.mem_of_getElem? (i := 46) rfl))) (mvT hZ (hw _ (List.mem_of_getElem? (i := 45) rfl))) (by decide) (backOf (W := 0) (rm_finish l Z a0 hw [] b30 q4 p5 q1 q2 (own_ini q1 q2) T43.heap n0 (Nat.le_trans Z0 K44.1) Ss6 g_b30) hZ (hw _ (List.mem_of_getElem? (i := 47) rfl)) (hw _ (List.mem_of_getElem? (i := 2) rfl)) (by decide) (by decide)) q47a q47c (g := (mkF m 73 #[.val (.long q1), .second, .val (.long q2), .second, .val (.long q3), .second, .val (.long q4), .second, .val (.int p5), .val (.ref b1), .val (.ref b1), .val (.int (1 : Int32)), .val (.long (own_fin (own_ini q1 q2) q4 p5)), .second, .unset, .unset, .unset, .unset, .unset, .unset, .unset] [(.int p5), (.long q4), (.ref b30)])) rfl (by rw [hml]; rfl) (Steps.refl _) (argsL := [(.long q4), (.int p5)]) (rest := []) (lenOf pd__JI_J rfl) rfl (by show 2 * 0 + _ ≤ _; exact Nat.le_of_eq rfl) (hb hby at_73) (fun _ _ => ⟨rfl, rfl, (by decide : 2 + 0 ≤ _), (by decide : 12 + 0 ≤ _)⟩)
  dsimp only [Pt.U, Pt.locs, Pt.cells, Pt.slots] at X47 l47 y47 z47 st47 hQ47
  subst l47 y47 z47
  obtain ⟨rfl, N47q, Kf7, ⟨tf7, Sf7⟩⟩ := hQ47
  have N47 := Fr.app N43 N47q
  have K48 : Keep h0 T47.heap [] := K44.trans Kf7 (allS (Or.inr sz_b30) all0)
  have E49 : Exa Z T47.heap b30 "com/example/stint/stint/core/SipHash" := E46.keep Kf7
  have E50 : Exa Z T47.heap b30 "com/example/stint/stint/core/SipHash" := Sf7.1
  obtain ⟨T51, h51, X51, e51, Ex51, A51, D51, -, st51⟩ := newO X47 hx hZ hown (hw _ (List.mem_of_getElem? (i := 0) rfl)) (hw _ (List.mem_of_getElem? (i := 1) rfl)) (hw _ (List.mem_of_getElem? (i := 2) rfl)) rfl (g := (mkF m 78 #[.val (.long q1), .second, .val (.long q2), .second, .val (.long q3), .second, .val (.long q4), .second, .val (.int p5), .val (.ref b1), .val (.ref b1), .val (.int (1 : Int32)), .val (.long (own_fin (own_ini q1 q2) q4 p5)), .second, .val (.long (own_fin (own_ini q1 q2) q4 p5)), .second, .unset, .unset, .unset, .unset, .unset] [])) rfl (hb hby at_78) (by decide) (by decide)
  obtain ⟨b51, g51⟩ : ∃ z, z = T47.heap.size := ⟨_, rfl⟩
  rw [← g51] at A51 D51 st51
  have sz_b51 : h0.size ≤ b51 := Nat.le_trans K48.1 (Nat.le_of_eq g51.symm)
  have g_b51 : n0 ≤ b51 := Nat.le_trans Z0 sz_b51
  have E52 : Exa Z h51 b51 "com/example/stint/stint/core/SipHash" := A51
  have F53 : Fld Z h51 b51 "com/example/stint/stint/core/SipHash" "k0" "J" (.long (0 : Int64)) := D51 (Or.inr (hw _ (List.mem_of_getElem? (i := 10) rfl))) (ty := .long) (by decide)
  have F54 : Fld Z h51 b51 "com/example/stint/stint/core/SipHash" "k1" "J" (.long (0 : Int64)) := D51 (Or.inr (hw _ (List.mem_of_getElem? (i := 12) rfl))) (ty := .long) (by decide)
  have F55 : Fld Z h51 b51 "com/example/stint/stint/core/SipHash" "v0" "J" (.long (0 : Int64)) := D51 (Or.inl (hw _ (List.mem_of_getElem? (i := 20) rfl))) (ty := .long) (by decide)
  have F56 : Fld Z h51 b51 "com/example/stint/stint/core/SipHash" "v1" "J" (.long (0 : Int64)) := D51 (Or.inl (hw _ (List.mem_of_getElem? (i := 23) rfl))) (ty := .long) (by decide)
  have F57 : Fld Z h51 b51 "com/example/stint/stint/core/SipHash" "v2" "J" (.long (0 : Int64)) := D51 (Or.inl (hw _ (List.mem_of_getElem? (i := 26) rfl))) (ty := .long) (by decide)
  have F58 : Fld Z h51 b51 "com/example/stint/stint/core/SipHash" "v3" "J" (.long (0 : Int64)) := D51 (Or.inl (hw _ (List.mem_of_getElem? (i := 29) rfl))) (ty := .long) (by decide)
  have K59 : Keep h0 h51 [] := K48.ext Ex51
  obtain ⟨_, _, ⟨T60, L60, kk60, n60⟩, -, X60, ⟨Lc60, hQ60, l60, y60, z60⟩, st60⟩ := X51.specialBack hx (y := (⟨"com/example/stint/stint/core/SipHash", "<init>", "(JJ)V"⟩ : MethodName)) rfl hown (mvT hZ (hw _ (List.mem_of_getElem? (i := 3) rfl))) (mvT hZ (hw _ (List.mem_of_getElem? (i := 4) rfl))) (mvT hZ (hw _ (List.mem_of_getElem? (i := 5) rfl))) (by decide) (backOf (W := 1) (rm_init l Z a0 hw [] b51 (506097522914230528 : Int64) (1084818905618843912 : Int64) h51 n0 (Nat.le_trans Z0 K59.1) E52 F53 F54 F55 F56 F57 F58 g_b51) hZ (hw _ (List.mem_of_getElem? (i := 5) rfl)) (hw _ (List.mem_of_getElem? (i := 2) rfl)) (by decide) (by decide)) (g := (mkF m 88 #[.val (.long q1), .second, .val (.long q2), .second, .val (.long q3), .second, .val (.long q4), .second, .val (.int p5), .val (.ref b1), .val (.ref b1), .val (.int (1 : Int32)), .val (.long (own_fin (own_ini q1 q2) q4 p5)), .second, .val (.long (own_fin (own_ini q1 q2) q4 p5)), .second, .unset, .unset, .unset, .unset, .unset] [(.long (1084818905618843912 : Int64)), (.long (506097522914230528 : Int64)), (.ref b51), (.ref b51)])) rfl (by rw [hml]; rfl) (Steps.refl _) (a := b51) (argsL := [(.long (506097522914230528 : Int64)), (.long (1084818905618843912 : Int64))]) (rest := [(.ref b51)]) (lenOf pd__JJ_V rfl) rfl (by show 2 * 0 + _ ≤ _; exact Nat.le_of_eq rfl) (hb hby at_88) (fun _ _ => ⟨rfl, e51, (by decide : 3 + 0 ≤ _), (by decide : 18 + 0 ≤ _)⟩)
  dsimp only [Pt.U, Pt.locs, Pt.cells, Pt.slots] at X60 l60 y60 z60 st60 hQ60
  subst l60 y60 z60
  obtain ⟨rfl, N60q, Km8, Sm8⟩ := hQ60
  have N60 := Fr.app N47 N60q
  have K61 : Keep h0 T60.heap [] := K59.trans Km8 (allS (Or.inr sz_b51) all0)
  have E62 : Exa Z T60.heap b51 "com/example/stint/stint/core/SipHash" := E52.keep Km8
  have E63 : Exa Z T60.heap b51 "com/example/stint/stint/core/SipHash" := Sm8.1
  obtain ⟨cq64, kq64, q64a, q64b, q64c⟩ := isOf hZ rfl E63
  obtain ⟨_, _, ⟨T64, L64, kk64, n64⟩, -, X64, ⟨Lc64, hQ64, l64, y64, z64⟩, st64⟩ := X60.virtualBack hx (y := (⟨"com/example/stint/stint/core/SipHash", "start", "()Lcom/example/stint/stint/core/SipHash;"⟩ : MethodName)) (z := (⟨"com/example/stint/stint/core/SipHash", "start", "()Lcom/example/stint/stint/core/SipHash;"⟩ : MethodName)) hown (mvT hZ (hw _ (List.mem_of_getElem? (i := 13) rfl))) (mvT hZ (hw _ (List.mem_of_getElem? (i := 14) rfl))) (notFace_of_selects (args := #[]) (mvT hZ (hw _ (List.mem_of_getElem? (i := 16) rfl)))) (mvT hZ (hw _ (List.mem_of_getElem? (i := 16) rfl))) (mvT hZ (hw _ (List.mem_of_getElem? (i := 15) rfl))) (by decide) (backOf (W := 0) (rm_start l Z a0 hw [] b51 (506097522914230528 : Int64) (1084818905618843912 : Int64) ((0 : Int64), (0 : Int64), (0 : Int64), (0 : Int64)) T60.heap n0 (Nat.le_trans Z0 K61.1) Sm8 g_b51) hZ (hw _ (List.mem_of_getElem? (i := 17) rfl)) (hw _ (List.mem_of_getElem? (i := 2) rfl)) (by decide) (by decide)) q64a q64c (g := (mkF m 95 #[.val (.long q1), .second, .val (.long q2), .second, .val (.long q3), .second, .val (.long q4), .second, .val (.int p5), .val (.ref b1), .val (.ref b1), .val (.int (1 : Int32)), .val (.long (own_fin (own_ini q1 q2) q4 p5)), .second, .val (.long (own_fin (own_ini q1 q2) q4 p5)), .second, .val (.ref b51), .unset, .unset, .unset, .unset] [(.ref b51)])) rfl (by rw [hml]; rfl) (Steps.refl _) (argsL := []) (rest := []) (lenOf pd___Lcom_example_stint_stint_core_SipHash_ rfl) rfl (by show 2 * 0 + _ ≤ _; exact Nat.le_of_eq rfl) (hb hby at_95) (fun _ _ => ⟨rfl, rfl, (by decide : 3 + 0 ≤ _), (by decide : 18 + 0 ≤ _)⟩)
  dsimp only [Pt.U, Pt.locs, Pt.cells, Pt.slots] at X64 l64 y64 z64 st64 hQ64
  subst l64 y64 z64
  obtain ⟨rfl, N64q, Ks9, Ss9⟩ := hQ64
  have N64 := Fr.app N60 N64q
  have K65 : Keep h0 T64.heap [] := K61.trans Ks9 (allS (Or.inr sz_b51) all0)
  have E66 : Exa Z T64.heap b51 "com/example/stint/stint/core/SipHash" := E63.keep Ks9
  have E67 : Exa Z T64.heap b51 "com/example/stint/stint/core/SipHash" := Ss9.1
  obtain ⟨cq68, kq68, q68a, q68b, q68c⟩ := isOf hZ rfl E67
  obtain ⟨_, _, ⟨T68, L68, kk68, n68⟩, -, X68, ⟨Lc68, hQ68, l68, y68, z68⟩, st68⟩ := X64.virtualBack hx (y := (⟨"com/example/stint/stint/core/SipHash", "finish", "(JI)J"⟩ : MethodName)) (z := (⟨"com/example/stint/stint/core/SipHash", "finish", "(JI)J"⟩ : MethodName)) hown (mvT hZ (hw _ (List.mem_of_getElem? (i := 43) rfl))) (mvT hZ (hw _ (List.mem_of_getElem? (i := 44) rfl))) (notFace_of_selects (args := #[]) (mvT hZ (hw _ (List.mem_of_getElem? (i := 46) rfl)))) (mvT hZ (hw _ (List.mem_of_getElem? (i := 46) rfl))) (mvT hZ (hw _ (List.mem_of_getElem? (i := 45) rfl))) (by decide) (backOf (W := 0) (rm_finish l Z a0 hw [] b51 (0 : Int64) (0 : Int32) (506097522914230528 : Int64) (1084818905618843912 : Int64) (own_ini (506097522914230528 : Int64) (1084818905618843912 : Int64)) T64.heap n0 (Nat.le_trans Z0 K65.1) Ss9 g_b51) hZ (hw _ (List.mem_of_getElem? (i := 47) rfl)) (hw _ (List.mem_of_getElem? (i := 2) rfl)) (by decide) (by decide)) q68a q68c (g := (mkF m 100 #[.val (.long q1), .second, .val (.long q2), .second, .val (.long q3), .second, .val (.long q4), .second, .val (.int p5), .val (.ref b1), .val (.ref b1), .val (.int (1 : Int32)), .val (.long (own_fin (own_ini q1 q2) q4 p5)), .second, .val (.long (own_fin (own_ini q1 q2) q4 p5)), .second, .val (.ref b51), .unset, .unset, .unset, .unset] [(.int (0 : Int32)), (.long (0 : Int64)), (.ref b51)])) rfl (by rw [hml]; rfl) (Steps.refl _) (argsL := [(.long (0 : Int64)), (.int (0 : Int32))]) (rest := []) (lenOf pd__JI_J rfl) rfl (by show 2 * 0 + _ ≤ _; exact Nat.le_of_eq rfl) (hb hby at_100) (fun _ _ => ⟨rfl, rfl, (by decide : 3 + 0 ≤ _), (by decide : 18 + 0 ≤ _)⟩)
  dsimp only [Pt.U, Pt.locs, Pt.cells, Pt.slots] at X68 l68 y68 z68 st68 hQ68
  subst l68 y68 z68
  obtain ⟨rfl, N68q, Kf10, ⟨tf10, Sf10⟩⟩ := hQ68
  have N68 := Fr.app N64 N68q
  have K69 : Keep h0 T68.heap [] := K65.trans Kf10 (allS (Or.inr sz_b51) all0)
  have E70 : Exa Z T68.heap b51 "com/example/stint/stint/core/SipHash" := E67.keep Kf10
  have E71 : Exa Z T68.heap b51 "com/example/stint/stint/core/SipHash" := Sf10.1
  obtain ⟨cq72, kq72, q72a, q72b, q72c⟩ := isOf hZ rfl E71
  obtain ⟨_, _, ⟨T72, L72, kk72, n72⟩, -, X72, ⟨Lc72, hQ72, l72, y72, z72⟩, st72⟩ := X68.virtualBack hx (y := (⟨"com/example/stint/stint/core/SipHash", "start", "()Lcom/example/stint/stint/core/SipHash;"⟩ : MethodName)) (z := (⟨"com/example/stint/stint/core/SipHash", "start", "()Lcom/example/stint/stint/core/SipHash;"⟩ : MethodName)) hown (mvT hZ (hw _ (List.mem_of_getElem? (i := 13) rfl))) (mvT hZ (hw _ (List.mem_of_getElem? (i := 14) rfl))) (notFace_of_selects (args := #[]) (mvT hZ (hw _ (List.mem_of_getElem? (i := 16) rfl)))) (mvT hZ (hw _ (List.mem_of_getElem? (i := 16) rfl))) (mvT hZ (hw _ (List.mem_of_getElem? (i := 15) rfl))) (by decide) (backOf (W := 0) (rm_start l Z a0 hw [] b51 (506097522914230528 : Int64) (1084818905618843912 : Int64) tf10 T68.heap n0 (Nat.le_trans Z0 K69.1) Sf10 g_b51) hZ (hw _ (List.mem_of_getElem? (i := 17) rfl)) (hw _ (List.mem_of_getElem? (i := 2) rfl)) (by decide) (by decide)) q72a q72c (g := (mkF m 107 #[.val (.long q1), .second, .val (.long q2), .second, .val (.long q3), .second, .val (.long q4), .second, .val (.int p5), .val (.ref b1), .val (.ref b1), .val (.int (1 : Int32)), .val (.long (own_fin (own_ini q1 q2) q4 p5)), .second, .val (.long (own_fin (own_ini q1 q2) q4 p5)), .second, .val (.ref b51), .val (.long (own_fin (own_ini (506097522914230528 : Int64) (1084818905618843912 : Int64)) (0 : Int64) (0 : Int32))), .second, .unset, .unset] [(.ref b51)])) rfl (by rw [hml]; rfl) (Steps.refl _) (argsL := []) (rest := []) (lenOf pd___Lcom_example_stint_stint_core_SipHash_ rfl) rfl (by show 2 * 0 + _ ≤ _; exact Nat.le_of_eq rfl) (hb hby at_107) (fun _ _ => ⟨rfl, rfl, (by decide : 3 + 0 ≤ _), (by decide : 18 + 0 ≤ _)⟩)
  dsimp only [Pt.U, Pt.locs, Pt.cells, Pt.slots] at X72 l72 y72 z72 st72 hQ72
  subst l72 y72 z72
  obtain ⟨rfl, N72q, Ks11, Ss11⟩ := hQ72
  have N72 := Fr.app N68 N72q
  have K73 : Keep h0 T72.heap [] := K69.trans Ks11 (allS (Or.inr sz_b51) all0)
  have E74 : Exa Z T72.heap b51 "com/example/stint/stint/core/SipHash" := E71.keep Ks11
  have E75 : Exa Z T72.heap b51 "com/example/stint/stint/core/SipHash" := Ss11.1
  obtain ⟨cq76, kq76, q76a, q76b, q76c⟩ := isOf hZ rfl E75
  obtain ⟨_, _, ⟨T76, L76, kk76, n76⟩, -, X76, ⟨Lc76, hQ76, l76, y76, z76⟩, st76⟩ := X72.virtualBack hx (y := (⟨"com/example/stint/stint/core/SipHash", "finish", "(JI)J"⟩ : MethodName)) (z := (⟨"com/example/stint/stint/core/SipHash", "finish", "(JI)J"⟩ : MethodName)) hown (mvT hZ (hw _ (List.mem_of_getElem? (i := 43) rfl))) (mvT hZ (hw _ (List.mem_of_getElem? (i := 44) rfl))) (notFace_of_selects (args := #[]) (mvT hZ (hw _ (List.mem_of_getElem? (i := 46) rfl)))) (mvT hZ (hw _ (List.mem_of_getElem? (i := 46) rfl))) (mvT hZ (hw _ (List.mem_of_getElem? (i := 45) rfl))) (by decide) (backOf (W := 0) (rm_finish l Z a0 hw [] b51 (0 : Int64) (1 : Int32) (506097522914230528 : Int64) (1084818905618843912 : Int64) (own_ini (506097522914230528 : Int64) (1084818905618843912 : Int64)) T72.heap n0 (Nat.le_trans Z0 K73.1) Ss11 g_b51) hZ (hw _ (List.mem_of_getElem? (i := 47) rfl)) (hw _ (List.mem_of_getElem? (i := 2) rfl)) (by decide) (by decide)) q76a q76c (g := (mkF m 112 #[.val (.long q1), .second, .val (.long q2), .second, .val (.long q3), .second, .val (.long q4), .second, .val (.int p5), .val (.ref b1), .val (.ref b1), .val (.int (1 : Int32)), .val (.long (own_fin (own_ini q1 q2) q4 p5)), .second, .val (.long (own_fin (own_ini q1 q2) q4 p5)), .second, .val (.ref b51), .val (.long (own_fin (own_ini (506097522914230528 : Int64) (1084818905618843912 : Int64)) (0 : Int64) (0 : Int32))), .second, .unset, .unset] [(.int (1 : Int32)), (.long (0 : Int64)), (.ref b51)])) rfl (by rw [hml]; rfl) (Steps.refl _) (argsL := [(.long (0 : Int64)), (.int (1 : Int32))]) (rest := []) (lenOf pd__JI_J rfl) rfl (by show 2 * 0 + _ ≤ _; exact Nat.le_of_eq rfl) (hb hby at_112) (fun _ _ => ⟨rfl, rfl, (by decide : 3 + 0 ≤ _), (by decide : 18 + 0 ≤ _)⟩)
  dsimp only [Pt.U, Pt.locs, Pt.cells, Pt.slots] at X76 l76 y76 z76 st76 hQ76
  subst l76 y76 z76
  obtain ⟨rfl, N76q, Kf12, ⟨tf12, Sf12⟩⟩ := hQ76
  have N76 := Fr.app N72 N76q
  have K77 : Keep h0 T76.heap [] := K73.trans Kf12 (allS (Or.inr sz_b51) all0)
  have E78 : Exa Z T76.heap b51 "com/example/stint/stint/core/SipHash" := E75.keep Kf12
  have E79 : Exa Z T76.heap b51 "com/example/stint/stint/core/SipHash" := Sf12.1
  have k81 : ∀ t, Steps p.tables e below (T76.setTop (mkF m 153 #[.val (.long q1), .second, .val (.long q2), .second, .val (.long q3), .second, .val (.long q4), .second, .val (.int p5), .val (.ref b1), .val (.ref b1), .val (.int (1 : Int32)), .val (.long (own_fin (own_ini q1 q2) q4 p5)), .second, .val (.long (own_fin (own_ini q1 q2) q4 p5)), .second, .val (.ref b51), .val (.long (own_fin (own_ini (506097522914230528 : Int64) (1084818905618843912 : Int64)) (0 : Int64) (0 : Int32))), .second, .val (.long (own_fin (own_ini (506097522914230528 : Int64) (1084818905618843912 : Int64)) (0 : Int64) (1 : Int32))), .second] [(.int (1 : Int32))])) t → Steps p.tables e below (s₁.setTop (entryFrame m #[(.long q1), (.long q2), (.long q3), (.long q4), (.int p5)] maxLocals)) t := fun t k => k0 t (by
    show Steps p.tables e below (s₁.setTop (mkF m 0 #[.val (.long q1), .second, .val (.long q2), .second, .val (.long q3), .second, .val (.long q4), .second, .val (.int p5), .unset, .unset, .unset, .unset, .unset, .unset, .unset, .unset, .unset, .unset, .unset, .unset] [])) _
    refine st1 _ ?_
    show Steps p.tables e below (T1.setTop (mkF m 3 #[.val (.long q1), .second, .val (.long q2), .second, .val (.long q3), .second, .val (.long q4), .second, .val (.int p5), .unset, .unset, .unset, .unset, .unset, .unset, .unset, .unset, .unset, .unset, .unset, .unset] [(.ref b1)])) _
    refine XS.dup X1.here hx rfl (hb hby at_3) rfl rfl ?_
    show Steps p.tables e below (T1.setTop (mkF m 4 #[.val (.long q1), .second, .val (.long q2), .second, .val (.long q3), .second, .val (.long q4), .second, .val (.int p5), .unset, .unset, .unset, .unset, .unset, .unset, .unset, .unset, .unset, .unset, .unset, .unset] [(.ref b1), (.ref b1)])) _
    refine XS.lloadN X1.here hx rfl (hb hby at_4) rfl ?_
    show Steps p.tables e below (T1.setTop (mkF m 5 #[.val (.long q1), .second, .val (.long q2), .second, .val (.long q3), .second, .val (.long q4), .second, .val (.int p5), .unset, .unset, .unset, .unset, .unset, .unset, .unset, .unset, .unset, .unset, .unset, .unset] [(.long q1), (.ref b1), (.ref b1)])) _
    refine XS.lloadN X1.here hx rfl (hb hby at_5) rfl ?_
    show Steps p.tables e below (T1.setTop (mkF m 6 #[.val (.long q1), .second, .val (.long q2), .second, .val (.long q3), .second, .val (.long q4), .second, .val (.int p5), .unset, .unset, .unset, .unset, .unset, .unset, .unset, .unset, .unset, .unset, .unset, .unset] [(.long q2), (.long q1), (.ref b1), (.ref b1)])) _
    refine st10.trans ?_
    show Steps p.tables e below (T10.setTop (mkF m 9 #[.val (.long q1), .second, .val (.long q2), .second, .val (.long q3), .second, .val (.long q4), .second, .val (.int p5), .unset, .unset, .unset, .unset, .unset, .unset, .unset, .unset, .unset, .unset, .unset, .unset] [(.ref b1)])) _
    refine XS.astore X10.here hx rfl (hb hby at_9) rfl rfl (l' := #[.val (.long q1), .second, .val (.long q2), .second, .val (.long q3), .second, .val (.long q4), .second, .val (.int p5), .val (.ref b1), .unset, .unset, .unset, .unset, .unset, .unset, .unset, .unset, .unset, .unset, .unset]) rfl ?_
    show Steps p.tables e below (T10.setTop (mkF m 11 #[.val (.long q1), .second, .val (.long q2), .second, .val (.long q3), .second, .val (.long q4), .second, .val (.int p5), .val (.ref b1), .unset, .unset, .unset, .unset, .unset, .unset, .unset, .unset, .unset, .unset, .unset] [])) _
    refine XS.aload X10.here hx rfl (hb hby at_11) rfl rfl ?_
    show Steps p.tables e below (T10.setTop (mkF m 13 #[.val (.long q1), .second, .val (.long q2), .second, .val (.long q3), .second, .val (.long q4), .second, .val (.int p5), .val (.ref b1), .unset, .unset, .unset, .unset, .unset, .unset, .unset, .unset, .unset, .unset, .unset] [(.ref b1)])) _
    refine st14.trans ?_
    show Steps p.tables e below (T14.setTop (mkF m 16 #[.val (.long q1), .second, .val (.long q2), .second, .val (.long q3), .second, .val (.long q4), .second, .val (.int p5), .val (.ref b1), .unset, .unset, .unset, .unset, .unset, .unset, .unset, .unset, .unset, .unset, .unset] [(.ref b1)])) _
    refine XS.astore X14.here hx rfl (hb hby at_16) rfl rfl (l' := #[.val (.long q1), .second, .val (.long q2), .second, .val (.long q3), .second, .val (.long q4), .second, .val (.int p5), .val (.ref b1), .val (.ref b1), .unset, .unset, .unset, .unset, .unset, .unset, .unset, .unset, .unset, .unset]) rfl ?_
    show Steps p.tables e below (T14.setTop (mkF m 18 #[.val (.long q1), .second, .val (.long q2), .second, .val (.long q3), .second, .val (.long q4), .second, .val (.int p5), .val (.ref b1), .val (.ref b1), .unset, .unset, .unset, .unset, .unset, .unset, .unset, .unset, .unset, .unset] [])) _
    refine XS.aload X14.here hx rfl (hb hby at_18) rfl rfl ?_
    show Steps p.tables e below (T14.setTop (mkF m 20 #[.val (.long q1), .second, .val (.long q2), .second, .val (.long q3), .second, .val (.long q4), .second, .val (.int p5), .val (.ref b1), .val (.ref b1), .unset, .unset, .unset, .unset, .unset, .unset, .unset, .unset, .unset, .unset] [(.ref b1)])) _
    refine XS.aload X14.here hx rfl (hb hby at_20) rfl rfl ?_
    show Steps p.tables e below (T14.setTop (mkF m 22 #[.val (.long q1), .second, .val (.long q2), .second, .val (.long q3), .second, .val (.long q4), .second, .val (.int p5), .val (.ref b1), .val (.ref b1), .unset, .unset, .unset, .unset, .unset, .unset, .unset, .unset, .unset, .unset] [(.ref b1), (.ref b1)])) _
    refine Jvm.RoadKit.acmp (g := (mkF m 22 #[.val (.long q1), .second, .val (.long q2), .second, .val (.long q3), .second, .val (.long q4), .second, .val (.int p5), .val (.ref b1), .val (.ref b1), .unset, .unset, .unset, .unset, .unset, .unset, .unset, .unset, .unset, .unset] [(.ref b1), (.ref b1)])) X14 hx rfl rfl rfl (pc0 := 22) (pc' := 25) (same := true) rfl (hb hby at_22) rfl (decide_eq_true rfl) (by decide) (by decide) ?_
    show Steps p.tables e below (T14.setTop (mkF m 25 #[.val (.long q1), .second, .val (.long q2), .second, .val (.long q3), .second, .val (.long q4), .second, .val (.int p5), .val (.ref b1), .val (.ref b1), .unset, .unset, .unset, .unset, .unset, .unset, .unset, .unset, .unset, .unset] [])) _
    refine XS.iconst X14.here hx rfl (hb hby at_25) ?_
    show Steps p.tables e below (T14.setTop (mkF m 26 #[.val (.long q1), .second, .val (.long q2), .second, .val (.long q3), .second, .val (.long q4), .second, .val (.int p5), .val (.ref b1), .val (.ref b1), .unset, .unset, .unset, .unset, .unset, .unset, .unset, .unset, .unset, .unset] [(.int (1 : Int32))])) _
    refine XS.goto X14.here hx rfl (pc0 := 26) (pc' := 30) rfl (hb hby at_26) (by decide) (by decide) ?_
    show Steps p.tables e below (T14.setTop (mkF m 30 #[.val (.long q1), .second, .val (.long q2), .second, .val (.long q3), .second, .val (.long q4), .second, .val (.int p5), .val (.ref b1), .val (.ref b1), .unset, .unset, .unset, .unset, .unset, .unset, .unset, .unset, .unset, .unset] [(.int (1 : Int32))])) _
    refine XS.istore X14.here hx rfl (hb hby at_30) rfl (l' := #[.val (.long q1), .second, .val (.long q2), .second, .val (.long q3), .second, .val (.long q4), .second, .val (.int p5), .val (.ref b1), .val (.ref b1), .val (.int (1 : Int32)), .unset, .unset, .unset, .unset, .unset, .unset, .unset, .unset, .unset]) rfl ?_
    show Steps p.tables e below (T14.setTop (mkF m 32 #[.val (.long q1), .second, .val (.long q2), .second, .val (.long q3), .second, .val (.long q4), .second, .val (.int p5), .val (.ref b1), .val (.ref b1), .val (.int (1 : Int32)), .unset, .unset, .unset, .unset, .unset, .unset, .unset, .unset, .unset] [])) _
    refine XS.aload X14.here hx rfl (hb hby at_32) rfl rfl ?_
    show Steps p.tables e below (T14.setTop (mkF m 34 #[.val (.long q1), .second, .val (.long q2), .second, .val (.long q3), .second, .val (.long q4), .second, .val (.int p5), .val (.ref b1), .val (.ref b1), .val (.int (1 : Int32)), .unset, .unset, .unset, .unset, .unset, .unset, .unset, .unset, .unset] [(.ref b1)])) _
    refine XS.lload X14.here hx rfl (hb hby at_34) rfl ?_
    show Steps p.tables e below (T14.setTop (mkF m 36 #[.val (.long q1), .second, .val (.long q2), .second, .val (.long q3), .second, .val (.long q4), .second, .val (.int p5), .val (.ref b1), .val (.ref b1), .val (.int (1 : Int32)), .unset, .unset, .unset, .unset, .unset, .unset, .unset, .unset, .unset] [(.long q3), (.ref b1)])) _
    refine st18.trans ?_
    show Steps p.tables e below (T18.setTop (mkF m 39 #[.val (.long q1), .second, .val (.long q2), .second, .val (.long q3), .second, .val (.long q4), .second, .val (.int p5), .val (.ref b1), .val (.ref b1), .val (.int (1 : Int32)), .unset, .unset, .unset, .unset, .unset, .unset, .unset, .unset, .unset] [(.ref b1)])) _
    refine XS.pop X18.here hx rfl (hb hby at_39) rfl rfl ?_
    show Steps p.tables e below (T18.setTop (mkF m 40 #[.val (.long q1), .second, .val (.long q2), .second, .val (.long q3), .second, .val (.long q4), .second, .val (.int p5), .val (.ref b1), .val (.ref b1), .val (.int (1 : Int32)), .unset, .unset, .unset, .unset, .unset, .unset, .unset, .unset, .unset] [])) _
    refine XS.aload X18.here hx rfl (hb hby at_40) rfl rfl ?_
    show Steps p.tables e below (T18.setTop (mkF m 42 #[.val (.long q1), .second, .val (.long q2), .second, .val (.long q3), .second, .val (.long q4), .second, .val (.int p5), .val (.ref b1), .val (.ref b1), .val (.int (1 : Int32)), .unset, .unset, .unset, .unset, .unset, .unset, .unset, .unset, .unset] [(.ref b1)])) _
    refine st22.trans ?_
    show Steps p.tables e below (T22.setTop (mkF m 45 #[.val (.long q1), .second, .val (.long q2), .second, .val (.long q3), .second, .val (.long q4), .second, .val (.int p5), .val (.ref b1), .val (.ref b1), .val (.int (1 : Int32)), .unset, .unset, .unset, .unset, .unset, .unset, .unset, .unset, .unset] [(.ref b1)])) _
    refine XS.pop X22.here hx rfl (hb hby at_45) rfl rfl ?_
    show Steps p.tables e below (T22.setTop (mkF m 46 #[.val (.long q1), .second, .val (.long q2), .second, .val (.long q3), .second, .val (.long q4), .second, .val (.int p5), .val (.ref b1), .val (.ref b1), .val (.int (1 : Int32)), .unset, .unset, .unset, .unset, .unset, .unset, .unset, .unset, .unset] [])) _
    refine XS.aload X22.here hx rfl (hb hby at_46) rfl rfl ?_
    show Steps p.tables e below (T22.setTop (mkF m 48 #[.val (.long q1), .second, .val (.long q2), .second, .val (.long q3), .second, .val (.long q4), .second, .val (.int p5), .val (.ref b1), .val (.ref b1), .val (.int (1 : Int32)), .unset, .unset, .unset, .unset, .unset, .unset, .unset, .unset, .unset] [(.ref b1)])) _
    refine XS.lload X22.here hx rfl (hb hby at_48) rfl ?_
    show Steps p.tables e below (T22.setTop (mkF m 50 #[.val (.long q1), .second, .val (.long q2), .second, .val (.long q3), .second, .val (.long q4), .second, .val (.int p5), .val (.ref b1), .val (.ref b1), .val (.int (1 : Int32)), .unset, .unset, .unset, .unset, .unset, .unset, .unset, .unset, .unset] [(.long q4), (.ref b1)])) _
    refine XS.iload X22.here hx rfl (hb hby at_50) rfl ?_
    show Steps p.tables e below (T22.setTop (mkF m 52 #[.val (.long q1), .second, .val (.long q2), .second, .val (.long q3), .second, .val (.long q4), .second, .val (.int p5), .val (.ref b1), .val (.ref b1), .val (.int (1 : Int32)), .unset, .unset, .unset, .unset, .unset, .unset, .unset, .unset, .unset] [(.int p5), (.long q4), (.ref b1)])) _
    refine st26.trans ?_
    show Steps p.tables e below (T26.setTop (mkF m 55 #[.val (.long q1), .second, .val (.long q2), .second, .val (.long q3), .second, .val (.long q4), .second, .val (.int p5), .val (.ref b1), .val (.ref b1), .val (.int (1 : Int32)), .unset, .unset, .unset, .unset, .unset, .unset, .unset, .unset, .unset] [(.long (own_fin (own_ini q1 q2) q4 p5))])) _
    refine XS.lstore X26.here hx rfl (hb hby at_55) rfl (l' := #[.val (.long q1), .second, .val (.long q2), .second, .val (.long q3), .second, .val (.long q4), .second, .val (.int p5), .val (.ref b1), .val (.ref b1), .val (.int (1 : Int32)), .val (.long (own_fin (own_ini q1 q2) q4 p5)), .second, .unset, .unset, .unset, .unset, .unset, .unset, .unset]) rfl ?_
    show Steps p.tables e below (T26.setTop (mkF m 57 #[.val (.long q1), .second, .val (.long q2), .second, .val (.long q3), .second, .val (.long q4), .second, .val (.int p5), .val (.ref b1), .val (.ref b1), .val (.int (1 : Int32)), .val (.long (own_fin (own_ini q1 q2) q4 p5)), .second, .unset, .unset, .unset, .unset, .unset, .unset, .unset] [])) _
    refine st30 _ ?_
    show Steps p.tables e below (T30.setTop (mkF m 60 #[.val (.long q1), .second, .val (.long q2), .second, .val (.long q3), .second, .val (.long q4), .second, .val (.int p5), .val (.ref b1), .val (.ref b1), .val (.int (1 : Int32)), .val (.long (own_fin (own_ini q1 q2) q4 p5)), .second, .unset, .unset, .unset, .unset, .unset, .unset, .unset] [(.ref b30)])) _
    refine XS.dup X30.here hx rfl (hb hby at_60) rfl rfl ?_
    show Steps p.tables e below (T30.setTop (mkF m 61 #[.val (.long q1), .second, .val (.long q2), .second, .val (.long q3), .second, .val (.long q4), .second, .val (.int p5), .val (.ref b1), .val (.ref b1), .val (.int (1 : Int32)), .val (.long (own_fin (own_ini q1 q2) q4 p5)), .second, .unset, .unset, .unset, .unset, .unset, .unset, .unset] [(.ref b30), (.ref b30)])) _
    refine XS.lloadN X30.here hx rfl (hb hby at_61) rfl ?_
    show Steps p.tables e below (T30.setTop (mkF m 62 #[.val (.long q1), .second, .val (.long q2), .second, .val (.long q3), .second, .val (.long q4), .second, .val (.int p5), .val (.ref b1), .val (.ref b1), .val (.int (1 : Int32)), .val (.long (own_fin (own_ini q1 q2) q4 p5)), .second, .unset, .unset, .unset, .unset, .unset, .unset, .unset] [(.long q1), (.ref b30), (.ref b30)])) _
    refine XS.lloadN X30.here hx rfl (hb hby at_62) rfl ?_
    show Steps p.tables e below (T30.setTop (mkF m 63 #[.val (.long q1), .second, .val (.long q2), .second, .val (.long q3), .second, .val (.long q4), .second, .val (.int p5), .val (.ref b1), .val (.ref b1), .val (.int (1 : Int32)), .val (.long (own_fin (own_ini q1 q2) q4 p5)), .second, .unset, .unset, .unset, .unset, .unset, .unset, .unset] [(.long q2), (.long q1), (.ref b30), (.ref b30)])) _
    refine st39.trans ?_
    show Steps p.tables e below (T39.setTop (mkF m 66 #[.val (.long q1), .second, .val (.long q2), .second, .val (.long q3), .second, .val (.long q4), .second, .val (.int p5), .val (.ref b1), .val (.ref b1), .val (.int (1 : Int32)), .val (.long (own_fin (own_ini q1 q2) q4 p5)), .second, .unset, .unset, .unset, .unset, .unset, .unset, .unset] [(.ref b30)])) _
    refine st43.trans ?_
    show Steps p.tables e below (T43.setTop (mkF m 69 #[.val (.long q1), .second, .val (.long q2), .second, .val (.long q3), .second, .val (.long q4), .second, .val (.int p5), .val (.ref b1), .val (.ref b1), .val (.int (1 : Int32)), .val (.long (own_fin (own_ini q1 q2) q4 p5)), .second, .unset, .unset, .unset, .unset, .unset, .unset, .unset] [(.ref b30)])) _
    refine XS.lload X43.here hx rfl (hb hby at_69) rfl ?_
    show Steps p.tables e below (T43.setTop (mkF m 71 #[.val (.long q1), .second, .val (.long q2), .second, .val (.long q3), .second, .val (.long q4), .second, .val (.int p5), .val (.ref b1), .val (.ref b1), .val (.int (1 : Int32)), .val (.long (own_fin (own_ini q1 q2) q4 p5)), .second, .unset, .unset, .unset, .unset, .unset, .unset, .unset] [(.long q4), (.ref b30)])) _
    refine XS.iload X43.here hx rfl (hb hby at_71) rfl ?_
    show Steps p.tables e below (T43.setTop (mkF m 73 #[.val (.long q1), .second, .val (.long q2), .second, .val (.long q3), .second, .val (.long q4), .second, .val (.int p5), .val (.ref b1), .val (.ref b1), .val (.int (1 : Int32)), .val (.long (own_fin (own_ini q1 q2) q4 p5)), .second, .unset, .unset, .unset, .unset, .unset, .unset, .unset] [(.int p5), (.long q4), (.ref b30)])) _
    refine st47.trans ?_
    show Steps p.tables e below (T47.setTop (mkF m 76 #[.val (.long q1), .second, .val (.long q2), .second, .val (.long q3), .second, .val (.long q4), .second, .val (.int p5), .val (.ref b1), .val (.ref b1), .val (.int (1 : Int32)), .val (.long (own_fin (own_ini q1 q2) q4 p5)), .second, .unset, .unset, .unset, .unset, .unset, .unset, .unset] [(.long (own_fin (own_ini q1 q2) q4 p5))])) _
    refine XS.lstore X47.here hx rfl (hb hby at_76) rfl (l' := #[.val (.long q1), .second, .val (.long q2), .second, .val (.long q3), .second, .val (.long q4), .second, .val (.int p5), .val (.ref b1), .val (.ref b1), .val (.int (1 : Int32)), .val (.long (own_fin (own_ini q1 q2) q4 p5)), .second, .val (.long (own_fin (own_ini q1 q2) q4 p5)), .second, .unset, .unset, .unset, .unset, .unset]) rfl ?_
    show Steps p.tables e below (T47.setTop (mkF m 78 #[.val (.long q1), .second, .val (.long q2), .second, .val (.long q3), .second, .val (.long q4), .second, .val (.int p5), .val (.ref b1), .val (.ref b1), .val (.int (1 : Int32)), .val (.long (own_fin (own_ini q1 q2) q4 p5)), .second, .val (.long (own_fin (own_ini q1 q2) q4 p5)), .second, .unset, .unset, .unset, .unset, .unset] [])) _
    refine st51 _ ?_
    show Steps p.tables e below (T51.setTop (mkF m 81 #[.val (.long q1), .second, .val (.long q2), .second, .val (.long q3), .second, .val (.long q4), .second, .val (.int p5), .val (.ref b1), .val (.ref b1), .val (.int (1 : Int32)), .val (.long (own_fin (own_ini q1 q2) q4 p5)), .second, .val (.long (own_fin (own_ini q1 q2) q4 p5)), .second, .unset, .unset, .unset, .unset, .unset] [(.ref b51)])) _
    refine XS.dup X51.here hx rfl (hb hby at_81) rfl rfl ?_
    show Steps p.tables e below (T51.setTop (mkF m 82 #[.val (.long q1), .second, .val (.long q2), .second, .val (.long q3), .second, .val (.long q4), .second, .val (.int p5), .val (.ref b1), .val (.ref b1), .val (.int (1 : Int32)), .val (.long (own_fin (own_ini q1 q2) q4 p5)), .second, .val (.long (own_fin (own_ini q1 q2) q4 p5)), .second, .unset, .unset, .unset, .unset, .unset] [(.ref b51), (.ref b51)])) _
    refine X51.ldc2Long hx hown (mvT hZ (hw _ (List.mem_of_getElem? (i := 50) rfl))) (g := (mkF m 82 #[.val (.long q1), .second, .val (.long q2), .second, .val (.long q3), .second, .val (.long q4), .second, .val (.int p5), .val (.ref b1), .val (.ref b1), .val (.int (1 : Int32)), .val (.long (own_fin (own_ini q1 q2) q4 p5)), .second, .val (.long (own_fin (own_ini q1 q2) q4 p5)), .second, .unset, .unset, .unset, .unset, .unset] [(.ref b51), (.ref b51)])) rfl (hb hby at_82) _ ?_
    show Steps p.tables e below (T51.setTop (mkF m 85 #[.val (.long q1), .second, .val (.long q2), .second, .val (.long q3), .second, .val (.long q4), .second, .val (.int p5), .val (.ref b1), .val (.ref b1), .val (.int (1 : Int32)), .val (.long (own_fin (own_ini q1 q2) q4 p5)), .second, .val (.long (own_fin (own_ini q1 q2) q4 p5)), .second, .unset, .unset, .unset, .unset, .unset] [(.long (506097522914230528 : Int64)), (.ref b51), (.ref b51)])) _
    refine X51.ldc2Long hx hown (mvT hZ (hw _ (List.mem_of_getElem? (i := 51) rfl))) (g := (mkF m 85 #[.val (.long q1), .second, .val (.long q2), .second, .val (.long q3), .second, .val (.long q4), .second, .val (.int p5), .val (.ref b1), .val (.ref b1), .val (.int (1 : Int32)), .val (.long (own_fin (own_ini q1 q2) q4 p5)), .second, .val (.long (own_fin (own_ini q1 q2) q4 p5)), .second, .unset, .unset, .unset, .unset, .unset] [(.long (506097522914230528 : Int64)), (.ref b51), (.ref b51)])) rfl (hb hby at_85) _ ?_
    show Steps p.tables e below (T51.setTop (mkF m 88 #[.val (.long q1), .second, .val (.long q2), .second, .val (.long q3), .second, .val (.long q4), .second, .val (.int p5), .val (.ref b1), .val (.ref b1), .val (.int (1 : Int32)), .val (.long (own_fin (own_ini q1 q2) q4 p5)), .second, .val (.long (own_fin (own_ini q1 q2) q4 p5)), .second, .unset, .unset, .unset, .unset, .unset] [(.long (1084818905618843912 : Int64)), (.long (506097522914230528 : Int64)), (.ref b51), (.ref b51)])) _
    refine st60.trans ?_
    show Steps p.tables e below (T60.setTop (mkF m 91 #[.val (.long q1), .second, .val (.long q2), .second, .val (.long q3), .second, .val (.long q4), .second, .val (.int p5), .val (.ref b1), .val (.ref b1), .val (.int (1 : Int32)), .val (.long (own_fin (own_ini q1 q2) q4 p5)), .second, .val (.long (own_fin (own_ini q1 q2) q4 p5)), .second, .unset, .unset, .unset, .unset, .unset] [(.ref b51)])) _
    refine XS.astore X60.here hx rfl (hb hby at_91) rfl rfl (l' := #[.val (.long q1), .second, .val (.long q2), .second, .val (.long q3), .second, .val (.long q4), .second, .val (.int p5), .val (.ref b1), .val (.ref b1), .val (.int (1 : Int32)), .val (.long (own_fin (own_ini q1 q2) q4 p5)), .second, .val (.long (own_fin (own_ini q1 q2) q4 p5)), .second, .val (.ref b51), .unset, .unset, .unset, .unset]) rfl ?_
    show Steps p.tables e below (T60.setTop (mkF m 93 #[.val (.long q1), .second, .val (.long q2), .second, .val (.long q3), .second, .val (.long q4), .second, .val (.int p5), .val (.ref b1), .val (.ref b1), .val (.int (1 : Int32)), .val (.long (own_fin (own_ini q1 q2) q4 p5)), .second, .val (.long (own_fin (own_ini q1 q2) q4 p5)), .second, .val (.ref b51), .unset, .unset, .unset, .unset] [])) _
    refine XS.aload X60.here hx rfl (hb hby at_93) rfl rfl ?_
    show Steps p.tables e below (T60.setTop (mkF m 95 #[.val (.long q1), .second, .val (.long q2), .second, .val (.long q3), .second, .val (.long q4), .second, .val (.int p5), .val (.ref b1), .val (.ref b1), .val (.int (1 : Int32)), .val (.long (own_fin (own_ini q1 q2) q4 p5)), .second, .val (.long (own_fin (own_ini q1 q2) q4 p5)), .second, .val (.ref b51), .unset, .unset, .unset, .unset] [(.ref b51)])) _
    refine st64.trans ?_
    show Steps p.tables e below (T64.setTop (mkF m 98 #[.val (.long q1), .second, .val (.long q2), .second, .val (.long q3), .second, .val (.long q4), .second, .val (.int p5), .val (.ref b1), .val (.ref b1), .val (.int (1 : Int32)), .val (.long (own_fin (own_ini q1 q2) q4 p5)), .second, .val (.long (own_fin (own_ini q1 q2) q4 p5)), .second, .val (.ref b51), .unset, .unset, .unset, .unset] [(.ref b51)])) _
    refine XS.lconst X64.here hx rfl (hb hby at_98) ?_
    show Steps p.tables e below (T64.setTop (mkF m 99 #[.val (.long q1), .second, .val (.long q2), .second, .val (.long q3), .second, .val (.long q4), .second, .val (.int p5), .val (.ref b1), .val (.ref b1), .val (.int (1 : Int32)), .val (.long (own_fin (own_ini q1 q2) q4 p5)), .second, .val (.long (own_fin (own_ini q1 q2) q4 p5)), .second, .val (.ref b51), .unset, .unset, .unset, .unset] [(.long (0 : Int64)), (.ref b51)])) _
    refine XS.iconst X64.here hx rfl (hb hby at_99) ?_
    show Steps p.tables e below (T64.setTop (mkF m 100 #[.val (.long q1), .second, .val (.long q2), .second, .val (.long q3), .second, .val (.long q4), .second, .val (.int p5), .val (.ref b1), .val (.ref b1), .val (.int (1 : Int32)), .val (.long (own_fin (own_ini q1 q2) q4 p5)), .second, .val (.long (own_fin (own_ini q1 q2) q4 p5)), .second, .val (.ref b51), .unset, .unset, .unset, .unset] [(.int (0 : Int32)), (.long (0 : Int64)), (.ref b51)])) _
    refine st68.trans ?_
    show Steps p.tables e below (T68.setTop (mkF m 103 #[.val (.long q1), .second, .val (.long q2), .second, .val (.long q3), .second, .val (.long q4), .second, .val (.int p5), .val (.ref b1), .val (.ref b1), .val (.int (1 : Int32)), .val (.long (own_fin (own_ini q1 q2) q4 p5)), .second, .val (.long (own_fin (own_ini q1 q2) q4 p5)), .second, .val (.ref b51), .unset, .unset, .unset, .unset] [(.long (own_fin (own_ini (506097522914230528 : Int64) (1084818905618843912 : Int64)) (0 : Int64) (0 : Int32)))])) _
    refine XS.lstore X68.here hx rfl (hb hby at_103) rfl (l' := #[.val (.long q1), .second, .val (.long q2), .second, .val (.long q3), .second, .val (.long q4), .second, .val (.int p5), .val (.ref b1), .val (.ref b1), .val (.int (1 : Int32)), .val (.long (own_fin (own_ini q1 q2) q4 p5)), .second, .val (.long (own_fin (own_ini q1 q2) q4 p5)), .second, .val (.ref b51), .val (.long (own_fin (own_ini (506097522914230528 : Int64) (1084818905618843912 : Int64)) (0 : Int64) (0 : Int32))), .second, .unset, .unset]) rfl ?_
    show Steps p.tables e below (T68.setTop (mkF m 105 #[.val (.long q1), .second, .val (.long q2), .second, .val (.long q3), .second, .val (.long q4), .second, .val (.int p5), .val (.ref b1), .val (.ref b1), .val (.int (1 : Int32)), .val (.long (own_fin (own_ini q1 q2) q4 p5)), .second, .val (.long (own_fin (own_ini q1 q2) q4 p5)), .second, .val (.ref b51), .val (.long (own_fin (own_ini (506097522914230528 : Int64) (1084818905618843912 : Int64)) (0 : Int64) (0 : Int32))), .second, .unset, .unset] [])) _
    refine XS.aload X68.here hx rfl (hb hby at_105) rfl rfl ?_
    show Steps p.tables e below (T68.setTop (mkF m 107 #[.val (.long q1), .second, .val (.long q2), .second, .val (.long q3), .second, .val (.long q4), .second, .val (.int p5), .val (.ref b1), .val (.ref b1), .val (.int (1 : Int32)), .val (.long (own_fin (own_ini q1 q2) q4 p5)), .second, .val (.long (own_fin (own_ini q1 q2) q4 p5)), .second, .val (.ref b51), .val (.long (own_fin (own_ini (506097522914230528 : Int64) (1084818905618843912 : Int64)) (0 : Int64) (0 : Int32))), .second, .unset, .unset] [(.ref b51)])) _
    refine st72.trans ?_
    show Steps p.tables e below (T72.setTop (mkF m 110 #[.val (.long q1), .second, .val (.long q2), .second, .val (.long q3), .second, .val (.long q4), .second, .val (.int p5), .val (.ref b1), .val (.ref b1), .val (.int (1 : Int32)), .val (.long (own_fin (own_ini q1 q2) q4 p5)), .second, .val (.long (own_fin (own_ini q1 q2) q4 p5)), .second, .val (.ref b51), .val (.long (own_fin (own_ini (506097522914230528 : Int64) (1084818905618843912 : Int64)) (0 : Int64) (0 : Int32))), .second, .unset, .unset] [(.ref b51)])) _
    refine XS.lconst X72.here hx rfl (hb hby at_110) ?_
    show Steps p.tables e below (T72.setTop (mkF m 111 #[.val (.long q1), .second, .val (.long q2), .second, .val (.long q3), .second, .val (.long q4), .second, .val (.int p5), .val (.ref b1), .val (.ref b1), .val (.int (1 : Int32)), .val (.long (own_fin (own_ini q1 q2) q4 p5)), .second, .val (.long (own_fin (own_ini q1 q2) q4 p5)), .second, .val (.ref b51), .val (.long (own_fin (own_ini (506097522914230528 : Int64) (1084818905618843912 : Int64)) (0 : Int64) (0 : Int32))), .second, .unset, .unset] [(.long (0 : Int64)), (.ref b51)])) _
    refine XS.iconst X72.here hx rfl (hb hby at_111) ?_
    show Steps p.tables e below (T72.setTop (mkF m 112 #[.val (.long q1), .second, .val (.long q2), .second, .val (.long q3), .second, .val (.long q4), .second, .val (.int p5), .val (.ref b1), .val (.ref b1), .val (.int (1 : Int32)), .val (.long (own_fin (own_ini q1 q2) q4 p5)), .second, .val (.long (own_fin (own_ini q1 q2) q4 p5)), .second, .val (.ref b51), .val (.long (own_fin (own_ini (506097522914230528 : Int64) (1084818905618843912 : Int64)) (0 : Int64) (0 : Int32))), .second, .unset, .unset] [(.int (1 : Int32)), (.long (0 : Int64)), (.ref b51)])) _
    refine st76.trans ?_
    show Steps p.tables e below (T76.setTop (mkF m 115 #[.val (.long q1), .second, .val (.long q2), .second, .val (.long q3), .second, .val (.long q4), .second, .val (.int p5), .val (.ref b1), .val (.ref b1), .val (.int (1 : Int32)), .val (.long (own_fin (own_ini q1 q2) q4 p5)), .second, .val (.long (own_fin (own_ini q1 q2) q4 p5)), .second, .val (.ref b51), .val (.long (own_fin (own_ini (506097522914230528 : Int64) (1084818905618843912 : Int64)) (0 : Int64) (0 : Int32))), .second, .unset, .unset] [(.long (own_fin (own_ini (506097522914230528 : Int64) (1084818905618843912 : Int64)) (0 : Int64) (1 : Int32)))])) _
    refine XS.lstore X76.here hx rfl (hb hby at_115) rfl (l' := #[.val (.long q1), .second, .val (.long q2), .second, .val (.long q3), .second, .val (.long q4), .second, .val (.int p5), .val (.ref b1), .val (.ref b1), .val (.int (1 : Int32)), .val (.long (own_fin (own_ini q1 q2) q4 p5)), .second, .val (.long (own_fin (own_ini q1 q2) q4 p5)), .second, .val (.ref b51), .val (.long (own_fin (own_ini (506097522914230528 : Int64) (1084818905618843912 : Int64)) (0 : Int64) (0 : Int32))), .second, .val (.long (own_fin (own_ini (506097522914230528 : Int64) (1084818905618843912 : Int64)) (0 : Int64) (1 : Int32))), .second]) rfl ?_
    show Steps p.tables e below (T76.setTop (mkF m 117 #[.val (.long q1), .second, .val (.long q2), .second, .val (.long q3), .second, .val (.long q4), .second, .val (.int p5), .val (.ref b1), .val (.ref b1), .val (.int (1 : Int32)), .val (.long (own_fin (own_ini q1 q2) q4 p5)), .second, .val (.long (own_fin (own_ini q1 q2) q4 p5)), .second, .val (.ref b51), .val (.long (own_fin (own_ini (506097522914230528 : Int64) (1084818905618843912 : Int64)) (0 : Int64) (0 : Int32))), .second, .val (.long (own_fin (own_ini (506097522914230528 : Int64) (1084818905618843912 : Int64)) (0 : Int64) (1 : Int32))), .second] [])) _
    refine XS.iload X76.here hx rfl (hb hby at_117) rfl ?_
    show Steps p.tables e below (T76.setTop (mkF m 119 #[.val (.long q1), .second, .val (.long q2), .second, .val (.long q3), .second, .val (.long q4), .second, .val (.int p5), .val (.ref b1), .val (.ref b1), .val (.int (1 : Int32)), .val (.long (own_fin (own_ini q1 q2) q4 p5)), .second, .val (.long (own_fin (own_ini q1 q2) q4 p5)), .second, .val (.ref b51), .val (.long (own_fin (own_ini (506097522914230528 : Int64) (1084818905618843912 : Int64)) (0 : Int64) (0 : Int32))), .second, .val (.long (own_fin (own_ini (506097522914230528 : Int64) (1084818905618843912 : Int64)) (0 : Int64) (1 : Int32))), .second] [(.int (1 : Int32))])) _
    refine XS.ifNo X76.here hx rfl (hb hby at_119) rfl ((if0 _ _).trans (feq (by decide)).1) ?_
    show Steps p.tables e below (T76.setTop (mkF m 122 #[.val (.long q1), .second, .val (.long q2), .second, .val (.long q3), .second, .val (.long q4), .second, .val (.int p5), .val (.ref b1), .val (.ref b1), .val (.int (1 : Int32)), .val (.long (own_fin (own_ini q1 q2) q4 p5)), .second, .val (.long (own_fin (own_ini q1 q2) q4 p5)), .second, .val (.ref b51), .val (.long (own_fin (own_ini (506097522914230528 : Int64) (1084818905618843912 : Int64)) (0 : Int64) (0 : Int32))), .second, .val (.long (own_fin (own_ini (506097522914230528 : Int64) (1084818905618843912 : Int64)) (0 : Int64) (1 : Int32))), .second] [])) _
    refine XS.lload X76.here hx rfl (hb hby at_122) rfl ?_
    show Steps p.tables e below (T76.setTop (mkF m 124 #[.val (.long q1), .second, .val (.long q2), .second, .val (.long q3), .second, .val (.long q4), .second, .val (.int p5), .val (.ref b1), .val (.ref b1), .val (.int (1 : Int32)), .val (.long (own_fin (own_ini q1 q2) q4 p5)), .second, .val (.long (own_fin (own_ini q1 q2) q4 p5)), .second, .val (.ref b51), .val (.long (own_fin (own_ini (506097522914230528 : Int64) (1084818905618843912 : Int64)) (0 : Int64) (0 : Int32))), .second, .val (.long (own_fin (own_ini (506097522914230528 : Int64) (1084818905618843912 : Int64)) (0 : Int64) (1 : Int32))), .second] [(.long (own_fin (own_ini q1 q2) q4 p5))])) _
    refine XS.lload X76.here hx rfl (hb hby at_124) rfl ?_
    show Steps p.tables e below (T76.setTop (mkF m 126 #[.val (.long q1), .second, .val (.long q2), .second, .val (.long q3), .second, .val (.long q4), .second, .val (.int p5), .val (.ref b1), .val (.ref b1), .val (.int (1 : Int32)), .val (.long (own_fin (own_ini q1 q2) q4 p5)), .second, .val (.long (own_fin (own_ini q1 q2) q4 p5)), .second, .val (.ref b51), .val (.long (own_fin (own_ini (506097522914230528 : Int64) (1084818905618843912 : Int64)) (0 : Int64) (0 : Int32))), .second, .val (.long (own_fin (own_ini (506097522914230528 : Int64) (1084818905618843912 : Int64)) (0 : Int64) (1 : Int32))), .second] [(.long (own_fin (own_ini q1 q2) q4 p5)), (.long (own_fin (own_ini q1 q2) q4 p5))])) _
    refine XS.lcmp X76.here hx rfl (hb hby at_126) rfl ?_
    show Steps p.tables e below (T76.setTop (mkF m 127 #[.val (.long q1), .second, .val (.long q2), .second, .val (.long q3), .second, .val (.long q4), .second, .val (.int p5), .val (.ref b1), .val (.ref b1), .val (.int (1 : Int32)), .val (.long (own_fin (own_ini q1 q2) q4 p5)), .second, .val (.long (own_fin (own_ini q1 q2) q4 p5)), .second, .val (.ref b51), .val (.long (own_fin (own_ini (506097522914230528 : Int64) (1084818905618843912 : Int64)) (0 : Int64) (0 : Int32))), .second, .val (.long (own_fin (own_ini (506097522914230528 : Int64) (1084818905618843912 : Int64)) (0 : Int64) (1 : Int32))), .second] [(.int (lcmpW (own_fin (own_ini q1 q2) q4 p5) (own_fin (own_ini q1 q2) q4 p5)))])) _
    refine XS.ifNo X76.here hx rfl (hb hby at_127) rfl ((if0 _ _).trans (teq ((lw_eq (own_fin (own_ini q1 q2) q4 p5) (own_fin (own_ini q1 q2) q4 p5)).mpr rfl)).2) ?_
    show Steps p.tables e below (T76.setTop (mkF m 130 #[.val (.long q1), .second, .val (.long q2), .second, .val (.long q3), .second, .val (.long q4), .second, .val (.int p5), .val (.ref b1), .val (.ref b1), .val (.int (1 : Int32)), .val (.long (own_fin (own_ini q1 q2) q4 p5)), .second, .val (.long (own_fin (own_ini q1 q2) q4 p5)), .second, .val (.ref b51), .val (.long (own_fin (own_ini (506097522914230528 : Int64) (1084818905618843912 : Int64)) (0 : Int64) (0 : Int32))), .second, .val (.long (own_fin (own_ini (506097522914230528 : Int64) (1084818905618843912 : Int64)) (0 : Int64) (1 : Int32))), .second] [])) _
    refine XS.lload X76.here hx rfl (hb hby at_130) rfl ?_
    show Steps p.tables e below (T76.setTop (mkF m 132 #[.val (.long q1), .second, .val (.long q2), .second, .val (.long q3), .second, .val (.long q4), .second, .val (.int p5), .val (.ref b1), .val (.ref b1), .val (.int (1 : Int32)), .val (.long (own_fin (own_ini q1 q2) q4 p5)), .second, .val (.long (own_fin (own_ini q1 q2) q4 p5)), .second, .val (.ref b51), .val (.long (own_fin (own_ini (506097522914230528 : Int64) (1084818905618843912 : Int64)) (0 : Int64) (0 : Int32))), .second, .val (.long (own_fin (own_ini (506097522914230528 : Int64) (1084818905618843912 : Int64)) (0 : Int64) (1 : Int32))), .second] [(.long (own_fin (own_ini (506097522914230528 : Int64) (1084818905618843912 : Int64)) (0 : Int64) (0 : Int32)))])) _
    refine X76.ldc2Long hx hown (mvT hZ (hw _ (List.mem_of_getElem? (i := 52) rfl))) (g := (mkF m 132 #[.val (.long q1), .second, .val (.long q2), .second, .val (.long q3), .second, .val (.long q4), .second, .val (.int p5), .val (.ref b1), .val (.ref b1), .val (.int (1 : Int32)), .val (.long (own_fin (own_ini q1 q2) q4 p5)), .second, .val (.long (own_fin (own_ini q1 q2) q4 p5)), .second, .val (.ref b51), .val (.long (own_fin (own_ini (506097522914230528 : Int64) (1084818905618843912 : Int64)) (0 : Int64) (0 : Int32))), .second, .val (.long (own_fin (own_ini (506097522914230528 : Int64) (1084818905618843912 : Int64)) (0 : Int64) (1 : Int32))), .second] [(.long (own_fin (own_ini (506097522914230528 : Int64) (1084818905618843912 : Int64)) (0 : Int64) (0 : Int32)))])) rfl (hb hby at_132) _ ?_
    show Steps p.tables e below (T76.setTop (mkF m 135 #[.val (.long q1), .second, .val (.long q2), .second, .val (.long q3), .second, .val (.long q4), .second, .val (.int p5), .val (.ref b1), .val (.ref b1), .val (.int (1 : Int32)), .val (.long (own_fin (own_ini q1 q2) q4 p5)), .second, .val (.long (own_fin (own_ini q1 q2) q4 p5)), .second, .val (.ref b51), .val (.long (own_fin (own_ini (506097522914230528 : Int64) (1084818905618843912 : Int64)) (0 : Int64) (0 : Int32))), .second, .val (.long (own_fin (own_ini (506097522914230528 : Int64) (1084818905618843912 : Int64)) (0 : Int64) (1 : Int32))), .second] [(.long (8246050544436514353 : Int64)), (.long (own_fin (own_ini (506097522914230528 : Int64) (1084818905618843912 : Int64)) (0 : Int64) (0 : Int32)))])) _
    refine XS.lcmp X76.here hx rfl (hb hby at_135) rfl ?_
    show Steps p.tables e below (T76.setTop (mkF m 136 #[.val (.long q1), .second, .val (.long q2), .second, .val (.long q3), .second, .val (.long q4), .second, .val (.int p5), .val (.ref b1), .val (.ref b1), .val (.int (1 : Int32)), .val (.long (own_fin (own_ini q1 q2) q4 p5)), .second, .val (.long (own_fin (own_ini q1 q2) q4 p5)), .second, .val (.ref b51), .val (.long (own_fin (own_ini (506097522914230528 : Int64) (1084818905618843912 : Int64)) (0 : Int64) (0 : Int32))), .second, .val (.long (own_fin (own_ini (506097522914230528 : Int64) (1084818905618843912 : Int64)) (0 : Int64) (1 : Int32))), .second] [(.int (lcmpW (own_fin (own_ini (506097522914230528 : Int64) (1084818905618843912 : Int64)) (0 : Int64) (0 : Int32)) (8246050544436514353 : Int64)))])) _
    refine XS.ifNo X76.here hx rfl (hb hby at_136) rfl ((if0 _ _).trans (teq ((lw_eq (own_fin (own_ini (506097522914230528 : Int64) (1084818905618843912 : Int64)) (0 : Int64) (0 : Int32)) (8246050544436514353 : Int64)).mpr own_e0)).2) ?_
    show Steps p.tables e below (T76.setTop (mkF m 139 #[.val (.long q1), .second, .val (.long q2), .second, .val (.long q3), .second, .val (.long q4), .second, .val (.int p5), .val (.ref b1), .val (.ref b1), .val (.int (1 : Int32)), .val (.long (own_fin (own_ini q1 q2) q4 p5)), .second, .val (.long (own_fin (own_ini q1 q2) q4 p5)), .second, .val (.ref b51), .val (.long (own_fin (own_ini (506097522914230528 : Int64) (1084818905618843912 : Int64)) (0 : Int64) (0 : Int32))), .second, .val (.long (own_fin (own_ini (506097522914230528 : Int64) (1084818905618843912 : Int64)) (0 : Int64) (1 : Int32))), .second] [])) _
    refine XS.lload X76.here hx rfl (hb hby at_139) rfl ?_
    show Steps p.tables e below (T76.setTop (mkF m 141 #[.val (.long q1), .second, .val (.long q2), .second, .val (.long q3), .second, .val (.long q4), .second, .val (.int p5), .val (.ref b1), .val (.ref b1), .val (.int (1 : Int32)), .val (.long (own_fin (own_ini q1 q2) q4 p5)), .second, .val (.long (own_fin (own_ini q1 q2) q4 p5)), .second, .val (.ref b51), .val (.long (own_fin (own_ini (506097522914230528 : Int64) (1084818905618843912 : Int64)) (0 : Int64) (0 : Int32))), .second, .val (.long (own_fin (own_ini (506097522914230528 : Int64) (1084818905618843912 : Int64)) (0 : Int64) (1 : Int32))), .second] [(.long (own_fin (own_ini (506097522914230528 : Int64) (1084818905618843912 : Int64)) (0 : Int64) (1 : Int32)))])) _
    refine X76.ldc2Long hx hown (mvT hZ (hw _ (List.mem_of_getElem? (i := 53) rfl))) (g := (mkF m 141 #[.val (.long q1), .second, .val (.long q2), .second, .val (.long q3), .second, .val (.long q4), .second, .val (.int p5), .val (.ref b1), .val (.ref b1), .val (.int (1 : Int32)), .val (.long (own_fin (own_ini q1 q2) q4 p5)), .second, .val (.long (own_fin (own_ini q1 q2) q4 p5)), .second, .val (.ref b51), .val (.long (own_fin (own_ini (506097522914230528 : Int64) (1084818905618843912 : Int64)) (0 : Int64) (0 : Int32))), .second, .val (.long (own_fin (own_ini (506097522914230528 : Int64) (1084818905618843912 : Int64)) (0 : Int64) (1 : Int32))), .second] [(.long (own_fin (own_ini (506097522914230528 : Int64) (1084818905618843912 : Int64)) (0 : Int64) (1 : Int32)))])) rfl (hb hby at_141) _ ?_
    show Steps p.tables e below (T76.setTop (mkF m 144 #[.val (.long q1), .second, .val (.long q2), .second, .val (.long q3), .second, .val (.long q4), .second, .val (.int p5), .val (.ref b1), .val (.ref b1), .val (.int (1 : Int32)), .val (.long (own_fin (own_ini q1 q2) q4 p5)), .second, .val (.long (own_fin (own_ini q1 q2) q4 p5)), .second, .val (.ref b51), .val (.long (own_fin (own_ini (506097522914230528 : Int64) (1084818905618843912 : Int64)) (0 : Int64) (0 : Int32))), .second, .val (.long (own_fin (own_ini (506097522914230528 : Int64) (1084818905618843912 : Int64)) (0 : Int64) (1 : Int32))), .second] [(.long (8428550223375919101 : Int64)), (.long (own_fin (own_ini (506097522914230528 : Int64) (1084818905618843912 : Int64)) (0 : Int64) (1 : Int32)))])) _
    refine XS.lcmp X76.here hx rfl (hb hby at_144) rfl ?_
    show Steps p.tables e below (T76.setTop (mkF m 145 #[.val (.long q1), .second, .val (.long q2), .second, .val (.long q3), .second, .val (.long q4), .second, .val (.int p5), .val (.ref b1), .val (.ref b1), .val (.int (1 : Int32)), .val (.long (own_fin (own_ini q1 q2) q4 p5)), .second, .val (.long (own_fin (own_ini q1 q2) q4 p5)), .second, .val (.ref b51), .val (.long (own_fin (own_ini (506097522914230528 : Int64) (1084818905618843912 : Int64)) (0 : Int64) (0 : Int32))), .second, .val (.long (own_fin (own_ini (506097522914230528 : Int64) (1084818905618843912 : Int64)) (0 : Int64) (1 : Int32))), .second] [(.int (lcmpW (own_fin (own_ini (506097522914230528 : Int64) (1084818905618843912 : Int64)) (0 : Int64) (1 : Int32)) (8428550223375919101 : Int64)))])) _
    refine XS.ifNo X76.here hx rfl (hb hby at_145) rfl ((if0 _ _).trans (teq ((lw_eq (own_fin (own_ini (506097522914230528 : Int64) (1084818905618843912 : Int64)) (0 : Int64) (1 : Int32)) (8428550223375919101 : Int64)).mpr own_e1)).2) ?_
    show Steps p.tables e below (T76.setTop (mkF m 148 #[.val (.long q1), .second, .val (.long q2), .second, .val (.long q3), .second, .val (.long q4), .second, .val (.int p5), .val (.ref b1), .val (.ref b1), .val (.int (1 : Int32)), .val (.long (own_fin (own_ini q1 q2) q4 p5)), .second, .val (.long (own_fin (own_ini q1 q2) q4 p5)), .second, .val (.ref b51), .val (.long (own_fin (own_ini (506097522914230528 : Int64) (1084818905618843912 : Int64)) (0 : Int64) (0 : Int32))), .second, .val (.long (own_fin (own_ini (506097522914230528 : Int64) (1084818905618843912 : Int64)) (0 : Int64) (1 : Int32))), .second] [])) _
    refine XS.iconst X76.here hx rfl (hb hby at_148) ?_
    show Steps p.tables e below (T76.setTop (mkF m 149 #[.val (.long q1), .second, .val (.long q2), .second, .val (.long q3), .second, .val (.long q4), .second, .val (.int p5), .val (.ref b1), .val (.ref b1), .val (.int (1 : Int32)), .val (.long (own_fin (own_ini q1 q2) q4 p5)), .second, .val (.long (own_fin (own_ini q1 q2) q4 p5)), .second, .val (.ref b51), .val (.long (own_fin (own_ini (506097522914230528 : Int64) (1084818905618843912 : Int64)) (0 : Int64) (0 : Int32))), .second, .val (.long (own_fin (own_ini (506097522914230528 : Int64) (1084818905618843912 : Int64)) (0 : Int64) (1 : Int32))), .second] [(.int (1 : Int32))])) _
    refine XS.goto X76.here hx rfl (pc0 := 149) (pc' := 153) rfl (hb hby at_149) (by decide) (by decide) ?_
    exact k)
  obtain ⟨fs, hr, hrun, hended, hW, hsame⟩ := X76.leave (v := some (.int (1 : Int32))) (fun h => by rw [Bd.returns] at h; cases h)
  refine ⟨_, _, k81 _ ?_, hrun, hended, _, _, rfl, ?_, ⟨_, rfl⟩, hW, hsame.mono (by decide) (by decide)⟩
  · show Steps p.tables e below (T76.setTop (mkF m 153 #[.val (.long q1), .second, .val (.long q2), .second, .val (.long q3), .second, .val (.long q4), .second, .val (.int p5), .val (.ref b1), .val (.ref b1), .val (.int (1 : Int32)), .val (.long (own_fin (own_ini q1 q2) q4 p5)), .second, .val (.long (own_fin (own_ini q1 q2) q4 p5)), .second, .val (.ref b51), .val (.long (own_fin (own_ini (506097522914230528 : Int64) (1084818905618843912 : Int64)) (0 : Int64) (0 : Int32))), .second, .val (.long (own_fin (own_ini (506097522914230528 : Int64) (1084818905618843912 : Int64)) (0 : Int64) (1 : Int32))), .second] [(.int (1 : Int32))])) _
    exact retN X76 hx (t := .boolean) Bd.returns (by simp) (hb hby at_153) hr
  ·
    show Qlaw _ q1 q2 q3 q4 p5 h0 n0 _ T76.heap _
    exact ⟨rfl, N76⟩
set_option maxRecDepth 65536 in
set_option maxHeartbeats 40000000 in
theorem comes_1 {Post : Tables → Env → Array Value → State → Outcome → State → Prop} (hpost : ∀ tb e args s v u, (limb_1_1.after args s (.returned v) u = true ∧ limb_1_2.after args s (.returned v) u = true ∧ True) → FrameEnd s (.returned v) u (Jvm.fieldLocs frame_1_writes args s ++ Jvm.arrayLocs frame_1_arrays args s ++ Jvm.staticLocs frame_1_statics s) 16 128 → Post tb e args s (.returned v) u) :
    ArmFor flags0 classFile x code maxLocals ret World_1 tables_1 room_1 Calls_1 rest_1 Pre_1 Post := by
  intro l hfl _ _ p e ha hc hk s m args below hf hA hF happ hP
  obtain ⟨hcalls, hrest, hpre⟩ := hP
  obtain ⟨-, -, -, hnamed, -, -, -, hat⟩ := (Spec.applies_iff hf).mp happ
  obtain ⟨hg, hn⟩ := and_e (Cond.before_iff.mp (show (Jvm.Cond.and given_1 narrow_1).before args s = true from hpre))
  obtain ⟨g1, g2⟩ := and_e hg
  obtain ⟨g3, g4⟩ := and_e g2
  obtain ⟨g5, g6⟩ := and_e g4
  obtain ⟨g7, g8⟩ := and_e g6
  obtain ⟨g9, g10⟩ := and_e g8
  obtain ⟨w0, w1, w2, w3, w4, rfl⟩ : ∃ w0 w1 w2 w3 w4 : Value, args = #[w0, w1, w2, w3, w4] := by
    have hs : args.size = 5 := by simpa [Cond.value, given_1] using g1
    obtain ⟨L⟩ := args
    match L, hs with
    | [w0, w1, w2, w3, w4], _ => exact ⟨w0, w1, w2, w3, w4, rfl⟩
  have hw := fun d (hd : d ∈ tables_1) => atoms_spec (ws := Jvm.Cond.code x code maxLocals ret :: tables_1) hat d (List.mem_cons_of_mem _ hd)
  have hfit : Fit s := fun {y c} hc i hi => by
    obtain ⟨ha, rfl⟩ := Array.getElem?_eq_some_iff.mp hc
    have q := List.all_eq_true.mp ((Array.all_eq_true_iff_forall_mem.mp hF) _ (Array.getElem_mem ha)) i (List.mem_range.mpr hi)
    simpa [Array.getElem?_eq_getElem hi] using q
  obtain ⟨i0, ei0⟩ := isL_v g3
  obtain rfl : w0 = (.long i0) := Option.some.inj ei0
  obtain ⟨i1, ei1⟩ := isL_v g5
  obtain rfl : w1 = (.long i1) := Option.some.inj ei1
  obtain ⟨i2, ei2⟩ := isL_v g7
  obtain rfl : w2 = (.long i2) := Option.some.inj ei2
  obtain ⟨i3, ei3⟩ := isL_v g9
  obtain rfl : w3 = (.long i3) := Option.some.inj ei3
  obtain ⟨i4, ei4⟩ := is_v g10
  obtain rfl : w4 = (.int i4) := Option.some.inj ei4
  obtain ⟨n, o, h1, h2, h3, _, L, rfl, ⟨rfl, N⟩, hq⟩ := rm_law l s _ hw tables_1 i0 i1 i2 i3 i4  s.heap s.heap.size (Nat.le_refl _)  p e ha hc hk s m _ below hf ((Spec.applies_iff_loose hf).mp happ).1 ⟨rfl, State.Warmed39.refl s, rfl⟩ trivial
  refine ⟨n, _, h1, h2, h3, hpost _ _ _ _ _ _ ⟨Cond.after_iff.mpr rfl, Cond.after_iff.mpr (eq_i res_at (Term.int_eval (1)) rfl), trivial⟩ ⟨hq.1, hq.2.1, (hq.2.2.sift fun y hy => Or.inr (N y hy)).mono (by decide) (by decide)⟩⟩
theorem main_1_1 : Claimed_1_1 := comes_1 fun _ _ _ _ _ _ h hF => ⟨h.1, hF⟩
theorem main_1_2 : Claimed_1_2 := comes_1 fun _ _ _ _ _ _ h hF => ⟨h.2.1, hF⟩
end Jvm.Pilot.@@N@@
namespace Jvm.Pilot.@@N@@
open Jvm Jvm.ClassFile Sem Op Lib Jvm.Free Jvm.Stand Jvm.Pilot.@@N@@.Jvm.D
/-! MADE BY PROGRAM (witnessworld.py) out of the Statement's table words and the real class files: 14 classes; the members and pool entries that the words name. The judged class is class 1, her method 1. -/
namespace start1
open Jvm.ClassFile
def u (s : String) : CpInfo := .utf8 (stringToUtf16 s)
/-- a pool by its gaps: so many unusable entries, then the entry; so many at the end -/
def gap : Nat → List CpInfo → List CpInfo
  | 0, r => r
  | n + 1, r => .unusable :: gap n r
def poolList (es : List (Nat × CpInfo)) (last : Nat) : List CpInfo := es.foldr (fun e r => gap e.1 (e.2 :: r)) (gap last [])
def pool (es : List (Nat × CpInfo)) (last : Nat) : Array CpInfo := ⟨poolList es last⟩
def fileOf (pool : Array CpInfo) (this : Nat) (attrs : Array Attribute := #[]) (ms : Array MethodInfo := #[]) (fl : Nat := 33) (sup : Nat := 0) (ifs : Array Nat := #[]) (fds : Array FieldInfo := #[]) : ClassFile where
  minorVersion := 0
  majorVersion := 65
  constantPool := pool
  accessFlags := fl
  thisClass := this
  superClass := sup
  interfaces := ifs
  fields := fds
  methods := ms
  attributes := attrs
def plain (name : String) (sup : Option ClassId) : Class where
  name := name
  kind := .ordinary
  loader := none
  accessFlags := 33
  super := sup
  interfaces := #[]
  cf := none
  fields := #[]
  methods := #[]
  instanceTypes := #[]
  staticTypes := #[]
  resolved := #[]
  callSites := []
  init := .initialized
  statics := none
  mirror := none

def pool0 : Array CpInfo := pool [(5, u "<init>"), (0, u "()V"), (1, .class_ 10), (1, u "java/lang/Object")] 113

def k0c0 : Code := { maxStack := 0, maxLocals := 1, code := object_method_1_code, exceptionTable := #[], attributes := #[] }
def k0m0 : Method := { name := "<init>", desc := "()V", sig := { parameters := [], returnType := none }, accessFlags := 1, code := some k0c0 }
/-- java/lang/Object -/
def k0 : Class := { plain "java/lang/Object" none with
  accessFlags := 33
  interfaces := #[]
  cf := some (fileOf pool0 8 #[] #[{ accessFlags := 1, nameIndex := 5, descriptorIndex := 6, attributes := #[] }] 33 0 #[] #[])
  fields := #[]
  methods := #[k0m0]
  instanceTypes := #[]
  staticTypes := #[]
  resolved := Array.replicate 124 none
  statics := none }

def pool1 : Array CpInfo := pool [(2, .class_ 4), (1, u "java/lang/Object"), (0, u "<init>"), (0, u "()V"), (0, .class_ 8), (0, u "com/example/stint/stint/core/SipHash"), (0, .methodref 7 10), (0, .nameAndType 5 11), (0, u "(JJ)V"), (0, .methodref 7 13), (0, .nameAndType 14 15), (0, u "start"), (0, u "()Lcom/example/stint/stint/core/SipHash;"), (0, .methodref 7 17), (0, .nameAndType 18 19), (0, u "add"), (0, u "(J)Lcom/example/stint/stint/core/SipHash;"), (0, .methodref 7 21), (0, .nameAndType 22 23), (0, u "finish"), (0, u "(JI)J"), (0, .long 506097522914230528), (1, .long 1084818905618843912), (1, .long 8246050544436514353), (1, .long 8428550223375919101), (1, .class_ 33), (0, u "com/example/stint/stint/core/SipHashStartPinLaw"), (2, u "law"), (0, u "(JJJJI)Z")] 3

def k1m0 : Method := { name := "<init>", desc := "()V", sig := { parameters := [], returnType := none }, accessFlags := 1, code := none }
def k1c1 : Code := { maxStack := 6, maxLocals := 21, code := code, exceptionTable := #[], attributes := #[] }
def k1m1 : Method := { name := "law", desc := "(JJJJI)Z", sig := { parameters := [.long, .long, .long, .long, .int], returnType := some .boolean }, accessFlags := 9, code := some k1c1 }
/-- com/example/stint/stint/core/SipHashStartPinLaw -/
def k1 : Class := { plain "com/example/stint/stint/core/SipHashStartPinLaw" (some 0) with
  accessFlags := 49
  interfaces := #[]
  cf := some (fileOf pool1 32 #[] #[{ accessFlags := 1, nameIndex := 5, descriptorIndex := 6, attributes := #[] }, { accessFlags := 9, nameIndex := 36, descriptorIndex := 37, attributes := #[] }] 49 2 #[] #[])
  fields := #[]
  methods := #[k1m0, k1m1]
  instanceTypes := #[]
  staticTypes := #[]
  resolved := Array.replicate 41 none
  statics := none }

def pool2 : Array CpInfo := pool [(1, .methodref 2 3), (0, .class_ 4), (0, .nameAndType 5 6), (0, u "java/lang/Object"), (0, u "<init>"), (0, u "()V"), (0, .fieldref 8 9), (0, .class_ 10), (0, .nameAndType 11 12), (0, u "com/example/stint/stint/core/SipHash"), (0, u "k0"), (0, u "J"), (0, .fieldref 8 14), (0, .nameAndType 15 12), (0, u "k1"), (0, .long 8317987319222330741), (1, .fieldref 8 19), (0, .nameAndType 20 12), (0, u "v0"), (0, .long 7237128888997146477), (1, .fieldref 8 24), (0, .nameAndType 25 12), (0, u "v1"), (0, .long 7816392313619706465), (1, .fieldref 8 29), (0, .nameAndType 30 12), (0, u "v2"), (0, .long 8387220255154660723), (1, .fieldref 8 34), (0, .nameAndType 35 12), (0, u "v3"), (0, .methodref 8 37), (0, .nameAndType 38 6), (0, u "round"), (0, .methodref 8 40), (0, .nameAndType 41 42), (0, u "add"), (0, u "(J)Lcom/example/stint/stint/core/SipHash;"), (0, .long 255), (1, .methodref 46 47), (0, .class_ 48), (0, .nameAndType 49 50), (0, u "java/lang/Long"), (0, u "rotateLeft"), (0, u "(JI)J"), (0, u "(JJ)V"), (2, u "start"), (0, u "()Lcom/example/stint/stint/core/SipHash;"), (0, u "finish")] 2

def k2c0 : Code := { maxStack := 3, maxLocals := 5, code := prog_33_method_1_code, exceptionTable := #[], attributes := #[] }
def k2m0 : Method := { name := "<init>", desc := "(JJ)V", sig := { parameters := [.long, .long], returnType := none }, accessFlags := 0, code := some k2c0 }
def k2c1 : Code := { maxStack := 5, maxLocals := 1, code := prog_33_method_2_code, exceptionTable := #[], attributes := #[] }
def k2m1 : Method := { name := "start", desc := "()Lcom/example/stint/stint/core/SipHash;", sig := { parameters := [], returnType := some (.object "com/example/stint/stint/core/SipHash") }, accessFlags := 0, code := some k2c1 }
def k2c2 : Code := { maxStack := 5, maxLocals := 3, code := prog_33_method_3_code, exceptionTable := #[], attributes := #[] }
def k2m2 : Method := { name := "add", desc := "(J)Lcom/example/stint/stint/core/SipHash;", sig := { parameters := [.long], returnType := some (.object "com/example/stint/stint/core/SipHash") }, accessFlags := 0, code := some k2c2 }
def k2c3 : Code := { maxStack := 5, maxLocals := 4, code := prog_33_method_4_code, exceptionTable := #[], attributes := #[] }
def k2m3 : Method := { name := "finish", desc := "(JI)J", sig := { parameters := [.long, .int], returnType := some .long }, accessFlags := 0, code := some k2c3 }
def k2c4 : Code := { maxStack := 5, maxLocals := 1, code := prog_33_method_5_code, exceptionTable := #[], attributes := #[] }
def k2m4 : Method := { name := "round", desc := "()V", sig := { parameters := [], returnType := none }, accessFlags := 2, code := some k2c4 }
/-- com/example/stint/stint/core/SipHash -/
def k2 : Class := { plain "com/example/stint/stint/core/SipHash" (some 0) with
  accessFlags := 32
  interfaces := #[]
  cf := some (fileOf pool2 8 #[] #[{ accessFlags := 0, nameIndex := 5, descriptorIndex := 51, attributes := #[] }, { accessFlags := 0, nameIndex := 54, descriptorIndex := 55, attributes := #[] }, { accessFlags := 0, nameIndex := 41, descriptorIndex := 42, attributes := #[] }, { accessFlags := 0, nameIndex := 56, descriptorIndex := 50, attributes := #[] }, { accessFlags := 2, nameIndex := 38, descriptorIndex := 6, attributes := #[] }] 32 2 #[] #[{ accessFlags := 18, nameIndex := 11, descriptorIndex := 12, attributes := #[] }, { accessFlags := 18, nameIndex := 15, descriptorIndex := 12, attributes := #[] }, { accessFlags := 2, nameIndex := 20, descriptorIndex := 12, attributes := #[] }, { accessFlags := 2, nameIndex := 25, descriptorIndex := 12, attributes := #[] }, { accessFlags := 2, nameIndex := 30, descriptorIndex := 12, attributes := #[] }, { accessFlags := 2, nameIndex := 35, descriptorIndex := 12, attributes := #[] }])
  fields := #[{ name := "k0", type := .long, accessFlags := 18, slot := 0, constantValue := 0 }, { name := "k1", type := .long, accessFlags := 18, slot := 1, constantValue := 0 }, { name := "v0", type := .long, accessFlags := 2, slot := 2, constantValue := 0 }, { name := "v1", type := .long, accessFlags := 2, slot := 3, constantValue := 0 }, { name := "v2", type := .long, accessFlags := 2, slot := 4, constantValue := 0 }, { name := "v3", type := .long, accessFlags := 2, slot := 5, constantValue := 0 }]
  methods := #[k2m0, k2m1, k2m2, k2m3, k2m4]
  instanceTypes := #[.long, .long, .long, .long, .long, .long]
  staticTypes := #[]
  resolved := Array.replicate 59 none
  statics := none }

def pool3 : Array CpInfo := pool [(1, .class_ 2), (0, u "java/io/Serializable"), (0, .class_ 4), (0, u "java/lang/Object")] 2

/-- java/io/Serializable -/
def k3 : Class := { plain "java/io/Serializable" (some 0) with
  accessFlags := 1537
  interfaces := #[]
  cf := some (fileOf pool3 1 #[] #[] 1537 3 #[] #[])
  fields := #[]
  methods := #[]
  instanceTypes := #[]
  staticTypes := #[]
  resolved := Array.replicate 7 none
  statics := none }

def pool4 : Array CpInfo := pool [(2, .class_ 4), (1, u "java/lang/Object"), (0, u "<init>"), (0, u "()V"), (1, .class_ 10), (1, u "java/lang/Number"), (2, .class_ 14), (0, u "java/io/Serializable"), (0, u "serialVersionUID"), (0, u "J")] 20

def k4m0 : Method := { name := "<init>", desc := "()V", sig := { parameters := [], returnType := none }, accessFlags := 1, code := none }
/-- java/lang/Number -/
def k4 : Class := { plain "java/lang/Number" (some 0) with
  accessFlags := 1057
  interfaces := #[3]
  cf := some (fileOf pool4 8 #[] #[{ accessFlags := 1, nameIndex := 5, descriptorIndex := 6, attributes := #[] }] 1057 2 #[13] #[{ accessFlags := 26, nameIndex := 15, descriptorIndex := 16, attributes := #[] }])
  fields := #[{ name := "serialVersionUID", type := .long, accessFlags := 26, slot := 0, constantValue := 0 }]
  methods := #[k4m0]
  instanceTypes := #[]
  staticTypes := #[.long]
  resolved := Array.replicate 37 none
  statics := none }

def pool5 : Array CpInfo := pool [(1, .class_ 2), (0, u "java/lang/Comparable"), (0, .class_ 4), (0, u "java/lang/Object")] 7

/-- java/lang/Comparable -/
def k5 : Class := { plain "java/lang/Comparable" (some 0) with
  accessFlags := 1537
  interfaces := #[]
  cf := some (fileOf pool5 1 #[] #[] 1537 3 #[] #[])
  fields := #[]
  methods := #[]
  instanceTypes := #[]
  staticTypes := #[]
  resolved := Array.replicate 12 none
  statics := none }

def pool6 : Array CpInfo := pool [(1, .class_ 2), (0, u "java/lang/constant/Constable"), (0, .class_ 4), (0, u "java/lang/Object")] 6

/-- java/lang/constant/Constable -/
def k6 : Class := { plain "java/lang/constant/Constable" (some 0) with
  accessFlags := 1537
  interfaces := #[]
  cf := some (fileOf pool6 1 #[] #[] 1537 3 #[] #[])
  fields := #[]
  methods := #[]
  instanceTypes := #[]
  staticTypes := #[]
  resolved := Array.replicate 11 none
  statics := none }

def pool7 : Array CpInfo := pool [(1, .class_ 2), (0, u "java/lang/constant/ConstantDesc"), (0, .class_ 4), (0, u "java/lang/Object")] 32

/-- java/lang/constant/ConstantDesc -/
def k7 : Class := { plain "java/lang/constant/ConstantDesc" (some 0) with
  accessFlags := 1537
  interfaces := #[]
  cf := some (fileOf pool7 1 #[] #[] 1537 3 #[] #[])
  fields := #[]
  methods := #[]
  instanceTypes := #[]
  staticTypes := #[]
  resolved := Array.replicate 37 none
  statics := none }

def pool8 : Array CpInfo := pool [(1, .class_ 2), (0, u "java/lang/Long"), (232, .class_ 237), (1, u "java/lang/Long$LongCache"), (33, .class_ 272), (0, u "java/lang/Number"), (2, u "value"), (0, u "J"), (84, u "TYPE"), (0, u "Ljava/lang/Class;"), (0, .class_ 364), (0, u "java/lang/Comparable"), (0, .class_ 366), (0, u "java/lang/constant/Constable"), (0, .class_ 368), (0, u "java/lang/constant/ConstantDesc"), (0, u "MIN_VALUE"), (1, u "MAX_VALUE"), (4, u "SIZE"), (0, u "I"), (1, u "BYTES"), (1, u "serialVersionUID"), (95, u "rotateLeft"), (0, u "(JI)J")] 45

def k8c0 : Code := { maxStack := 5, maxLocals := 3, code := jdk_35_method_51_code, exceptionTable := #[], attributes := #[] }
def k8m0 : Method := { name := "rotateLeft", desc := "(JI)J", sig := { parameters := [.long, .int], returnType := some .long }, accessFlags := 9, code := some k8c0 }
/-- java/lang/Long -/
def k8 : Class := { plain "java/lang/Long" (some 4) with
  accessFlags := 49
  interfaces := #[5, 6, 7]
  cf := some (fileOf pool8 1 #[.nestMembers #[235]] #[{ accessFlags := 9, nameIndex := 477, descriptorIndex := 478, attributes := #[] }] 49 271 #[363, 365, 367] #[{ accessFlags := 25, nameIndex := 369, descriptorIndex := 276, attributes := #[] }, { accessFlags := 25, nameIndex := 371, descriptorIndex := 276, attributes := #[] }, { accessFlags := 25, nameIndex := 361, descriptorIndex := 362, attributes := #[] }, { accessFlags := 18, nameIndex := 275, descriptorIndex := 276, attributes := #[] }, { accessFlags := 25, nameIndex := 376, descriptorIndex := 377, attributes := #[] }, { accessFlags := 25, nameIndex := 379, descriptorIndex := 377, attributes := #[] }, { accessFlags := 26, nameIndex := 381, descriptorIndex := 276, attributes := #[] }])
  fields := #[{ name := "MIN_VALUE", type := .long, accessFlags := 25, slot := 0, constantValue := 0 }, { name := "MAX_VALUE", type := .long, accessFlags := 25, slot := 1, constantValue := 0 }, { name := "TYPE", type := (.object "java/lang/Class"), accessFlags := 25, slot := 2, constantValue := 0 }, { name := "value", type := .long, accessFlags := 18, slot := 0, constantValue := 0 }, { name := "SIZE", type := .int, accessFlags := 25, slot := 3, constantValue := 0 }, { name := "BYTES", type := .int, accessFlags := 25, slot := 4, constantValue := 0 }, { name := "serialVersionUID", type := .long, accessFlags := 26, slot := 5, constantValue := 0 }]
  methods := #[k8m0]
  instanceTypes := #[.long]
  staticTypes := #[.long, .long, (.object "java/lang/Class"), .int, .int, .long]
  resolved := Array.replicate 524 none
  statics := none }

def pool9 : Array CpInfo := pool [(1, u "java/lang/Cloneable"), (0, .class_ 1), (0, u "java/lang/Object"), (0, .class_ 3)] 3

/-- java/lang/Cloneable -/
def k9 : Class := { plain "java/lang/Cloneable" (some 0) with
  accessFlags := 1537
  interfaces := #[]
  cf := some (fileOf pool9 2 #[] #[] 1537 4 #[] #[])
  fields := #[]
  methods := #[]
  instanceTypes := #[]
  staticTypes := #[]
  resolved := Array.replicate 8 none
  statics := none }

/-- the primitive byte -/
def k10 : Class := { plain "byte" none with kind := .primitive 'B', accessFlags := 0x411 }
/-- [B -/
def k11 : Class := { plain "[B" (some 0) with kind := .array 10 .byte, interfaces := #[9, 3], accessFlags := 1041 }

/-- the primitive int -/
def k12 : Class := { plain "int" none with kind := .primitive 'I', accessFlags := 0x411 }
/-- [I -/
def k13 : Class := { plain "[I" (some 0) with kind := .array 12 .int, interfaces := #[9, 3], accessFlags := 1041 }

def heap : Heap := #[]
def classes : Array Class := #[k0, k1, k2, k3, k4, k5, k6, k7, k8, k9, k10, k11, k12, k13]
def interned : List (Array UInt16 × Addr) := []
def slotsUsed : Nat := 0
def theMethod : MethodId := ⟨1, 1⟩
def args0 : Array Value := #[.long 1, .long 2, .long 3, .long 4, .int 5]
def aboutOver (below : List Frame) : State where
  vm := { classes := classes, interned := interned.toArray }
  heap := heap
  slotsUsed := slotsUsed
  threads := #[{ frames := .invoking theMethod args0 :: below }]
def below0 : List Frame := [.native { method := ⟨0, 0⟩, args := #[] }]
def about1 : State := aboutOver below0
def p0 : Program := .bare "" "" ""
def e0 : Env := launch0.env 0 0 0
theorem w_frames : about1.frames = Frame.invoking theMethod args0 :: below0 := rfl
set_option maxRecDepth 65536 in
theorem w_args : argsFit about1.vm theMethod args0 = true := by decide +kernel
set_option maxRecDepth 65536 in
theorem w_heap : heapFits about1 = true := by decide +kernel
set_option maxRecDepth 65536 in
theorem w_runnable : about1.curStatus? = some .runnable := by decide +kernel
set_option maxRecDepth 65536 in
theorem w_alone : about1.alone = true := by decide +kernel
set_option maxRecDepth 65536 in
theorem w_named : about1.methodNamed? x = some theMethod := by decide +kernel
set_option maxRecDepth 65536 in
theorem w_hears : about1.hears theMethod below0 = true := by decide +kernel
set_option maxRecDepth 65536 in
theorem w_ripe : about1.ripe theMethod args0 below0 = true := by decide +kernel
theorem w_running : about1.status = .running := rfl
set_option maxRecDepth 65536 in
theorem w_room : about1.hasRoom e0.platform room_1 = true :=
  launch0.hasRoom_least _ room_1 (by decide +kernel) (by decide +kernel) (by decide +kernel) (by decide +kernel) (by decide +kernel) (by decide +kernel)
theorem allAtoms_all (ts : List Jvm.Cond) (a : Array Jvm.Value) (st : Jvm.State) : (allAtoms ts).before a st = ts.all (fun c => c.before a st) := by
  induction ts with
  | nil => rfl
  | cons c t ih =>
    show (Jvm.Cond.and c (allAtoms t)).before a st = _
    rw [Jvm.Cond.before_and, ih, List.all_cons]
def words1 : List Jvm.Cond := Jvm.Cond.code x code maxLocals ret :: tables_1
/-- a 'code' word, met by the world's own term for the bytes: nothing is compared byte by byte -/
theorem code_word {y : MethodName} {bytes : ByteArray} {mx : Nat} {rt : Option FieldType} {a : Array Value} {s : State} {m : MethodId} {meth : Method} {c : Code} (h1 : s.methodNamed? y = some m) (h2 : s.vm.method? m = some meth) (h3 : meth.code = some c) (h4 : c.code = bytes)
    (h5 : (c.maxLocals == mx && c.exceptionTable.isEmpty && decide (c.maxStack ≤ mostOperands) && decide (meth.sig.returnType = rt) && !meth.locks && decide (parseMethodDescriptor y.desc = some meth.sig)) = true) : (Jvm.Cond.code y bytes mx rt).before a s = true := by
  simp only [Bool.and_eq_true, beq_iff_eq, Bool.not_eq_true', decide_eq_true_eq] at h5
  obtain ⟨⟨⟨⟨⟨g1, g2⟩, g3⟩, g4⟩, g5⟩, g6⟩ := h5
  simp [Cond.before, Cond.holds, Cond.value, h1, h2, h3, h4, g1, g2, g3, g4, g5, g6]
def isCode : Jvm.Cond → Bool
  | .code _ _ _ _ => true
  | _ => false
theorem all_split {L : List Jvm.Cond} {P : Jvm.Cond → Bool} (h1 : L.all (fun c => isCode c || P c) = true) (h2 : ∀ c ∈ L.filter isCode, P c = true) : L.all P = true := by
  refine List.all_eq_true.mpr fun c hc => ?_
  have h := List.all_eq_true.mp h1 c hc
  rcases Bool.eq_false_or_eq_true (isCode c) with hi | hi
  · exact h2 c (List.mem_filter.mpr ⟨hc, hi⟩)
  · simpa [hi] using h
set_option maxRecDepth 65536 in
theorem w_c0 : (Jvm.Cond.code x code maxLocals ret).before args0 about1 = true := code_word (m := ⟨1, 1⟩) (meth := k1m1) (c := k1c1) (by decide +kernel) rfl rfl rfl (by decide +kernel)
set_option maxRecDepth 65536 in
theorem w_c1 : (Jvm.Cond.code ({ cls := "com/example/stint/stint/core/SipHash", name := "<init>", desc := "(JJ)V" } : Jvm.MethodName) prog_33_method_1_code (5 : Nat) (Option.none : Option Jvm.ClassFile.FieldType)).before args0 about1 = true := code_word (m := ⟨2, 0⟩) (meth := k2m0) (c := k2c0) (by decide +kernel) rfl rfl rfl (by decide +kernel)
set_option maxRecDepth 65536 in
theorem w_c2 : (Jvm.Cond.code ({ cls := "java/lang/Object", name := "<init>", desc := "()V" } : Jvm.MethodName) object_method_1_code (1 : Nat) (Option.none : Option Jvm.ClassFile.FieldType)).before args0 about1 = true := code_word (m := ⟨0, 0⟩) (meth := k0m0) (c := k0c0) (by decide +kernel) rfl rfl rfl (by decide +kernel)
set_option maxRecDepth 65536 in
theorem w_c3 : (Jvm.Cond.code ({ cls := "com/example/stint/stint/core/SipHash", name := "start", desc := "()Lcom/example/stint/stint/core/SipHash;" } : Jvm.MethodName) prog_33_method_2_code (1 : Nat) (Option.some (Jvm.ClassFile.FieldType.object "com/example/stint/stint/core/SipHash"))).before args0 about1 = true := code_word (m := ⟨2, 1⟩) (meth := k2m1) (c := k2c1) (by decide +kernel) rfl rfl rfl (by decide +kernel)
set_option maxRecDepth 65536 in
theorem w_c4 : (Jvm.Cond.code ({ cls := "com/example/stint/stint/core/SipHash", name := "add", desc := "(J)Lcom/example/stint/stint/core/SipHash;" } : Jvm.MethodName) prog_33_method_3_code (3 : Nat) (Option.some (Jvm.ClassFile.FieldType.object "com/example/stint/stint/core/SipHash"))).before args0 about1 = true := code_word (m := ⟨2, 2⟩) (meth := k2m2) (c := k2c2) (by decide +kernel) rfl rfl rfl (by decide +kernel)
set_option maxRecDepth 65536 in
theorem w_c5 : (Jvm.Cond.code ({ cls := "com/example/stint/stint/core/SipHash", name := "round", desc := "()V" } : Jvm.MethodName) prog_33_method_5_code (1 : Nat) (Option.none : Option Jvm.ClassFile.FieldType)).before args0 about1 = true := code_word (m := ⟨2, 4⟩) (meth := k2m4) (c := k2c4) (by decide +kernel) rfl rfl rfl (by decide +kernel)
set_option maxRecDepth 65536 in
theorem w_c6 : (Jvm.Cond.code ({ cls := "java/lang/Long", name := "rotateLeft", desc := "(JI)J" } : Jvm.MethodName) jdk_35_method_51_code (3 : Nat) (Option.some Jvm.ClassFile.FieldType.long)).before args0 about1 = true := code_word (m := ⟨8, 0⟩) (meth := k8m0) (c := k8c0) (by decide +kernel) rfl rfl rfl (by decide +kernel)
set_option maxRecDepth 65536 in
theorem w_c7 : (Jvm.Cond.code ({ cls := "com/example/stint/stint/core/SipHash", name := "finish", desc := "(JI)J" } : Jvm.MethodName) prog_33_method_4_code (4 : Nat) (Option.some Jvm.ClassFile.FieldType.long)).before args0 about1 = true := code_word (m := ⟨2, 3⟩) (meth := k2m3) (c := k2c3) (by decide +kernel) rfl rfl rfl (by decide +kernel)
def codes1 : List Jvm.Cond := [Jvm.Cond.code x code maxLocals ret, Jvm.Cond.code ({ cls := "com/example/stint/stint/core/SipHash", name := "<init>", desc := "(JJ)V" } : Jvm.MethodName) prog_33_method_1_code (5 : Nat) (Option.none : Option Jvm.ClassFile.FieldType), Jvm.Cond.code ({ cls := "java/lang/Object", name := "<init>", desc := "()V" } : Jvm.MethodName) object_method_1_code (1 : Nat) (Option.none : Option Jvm.ClassFile.FieldType), Jvm.Cond.code ({ cls := "com/example/stint/stint/core/SipHash", name := "start", desc := "()Lcom/example/stint/stint/core/SipHash;" } : Jvm.MethodName) prog_33_method_2_code (1 : Nat) (Option.some (Jvm.ClassFile.FieldType.object "com/example/stint/stint/core/SipHash")), Jvm.Cond.code ({ cls := "com/example/stint/stint/core/SipHash", name := "add", desc := "(J)Lcom/example/stint/stint/core/SipHash;" } : Jvm.MethodName) prog_33_method_3_code (3 : Nat) (Option.some (Jvm.ClassFile.FieldType.object "com/example/stint/stint/core/SipHash")), Jvm.Cond.code ({ cls := "com/example/stint/stint/core/SipHash", name := "round", desc := "()V" } : Jvm.MethodName) prog_33_method_5_code (1 : Nat) (Option.none : Option Jvm.ClassFile.FieldType), Jvm.Cond.code ({ cls := "java/lang/Long", name := "rotateLeft", desc := "(JI)J" } : Jvm.MethodName) jdk_35_method_51_code (3 : Nat) (Option.some Jvm.ClassFile.FieldType.long), Jvm.Cond.code ({ cls := "com/example/stint/stint/core/SipHash", name := "finish", desc := "(JI)J" } : Jvm.MethodName) prog_33_method_4_code (4 : Nat) (Option.some Jvm.ClassFile.FieldType.long)]
set_option maxRecDepth 65536 in
theorem codes_eq : words1.filter isCode = codes1 := rfl
theorem w_codes : ∀ c ∈ words1.filter isCode, c.before args0 about1 = true := by
  rw [codes_eq]
  intro c hc
  simp only [codes1, List.mem_cons, List.not_mem_nil, or_false] at hc
  rcases hc with rfl | rfl | rfl | rfl | rfl | rfl | rfl | rfl
  · exact w_c0
  · exact w_c1
  · exact w_c2
  · exact w_c3
  · exact w_c4
  · exact w_c5
  · exact w_c6
  · exact w_c7
set_option maxRecDepth 65536 in
theorem w_t1 : (words1.take 24).all (fun c => isCode c || c.before args0 about1) = true := by decide +kernel
set_option maxRecDepth 65536 in
theorem w_t2 : ((words1.drop 24).take 24).all (fun c => isCode c || c.before args0 about1) = true := by decide +kernel
set_option maxRecDepth 65536 in
theorem w_t3 : ((words1.drop 24).drop 24).all (fun c => isCode c || c.before args0 about1) = true := by decide +kernel
theorem w_tables : (allAtoms (Jvm.Cond.code x code maxLocals ret :: tables_1)).before args0 about1 = true := by
  rw [allAtoms_all]
  show words1.all (fun c => c.before args0 about1) = true
  refine all_split ?_ w_codes
  rw [← List.take_append_drop 24 words1, List.all_append, w_t1, ← List.take_append_drop 24 (words1.drop 24), List.all_append, w_t2, w_t3]
  rfl
set_option maxRecDepth 65536 in
theorem w_case : (Jvm.Cond.and given_1 narrow_1).before args0 about1 = true := by decide +kernel
theorem w_applies : (headSpec (Jvm.Cond.code x code maxLocals ret :: tables_1) room_1).applies x e0.platform about1 = true :=
  (Spec.applies_iff w_frames).mpr ⟨w_running, w_runnable, w_alone, w_named, w_hears, w_ripe, w_room, w_tables⟩
theorem atStart : AtStart classFile x code maxLocals ret World_1 tables_1 room_1 Calls_1 rest_1 Pre_1 launch0 p0 e0 about1 theMethod args0 below0 :=
  ⟨lists_1, trivial, launch0.admits_env _ _ _, launch0.least_env, fairChoices_fair.cas, fairChoices_fair.clock, w_frames, w_args, w_heap, w_applies, trivial, trivial, w_case⟩
end start1
theorem witness_1 : WitnessClaimed_1 := ⟨start1.p0, start1.e0, start1.about1, start1.theMethod, start1.args0, start1.below0, start1.atStart⟩
end Jvm.Pilot.@@N@@
