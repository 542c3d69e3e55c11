import JvmDerived
import JvmDerived.Pilot.@@N@@Statement
import JvmDerived.Pilot.@@N@@Code
set_option linter.unusedVariables false
set_option linter.unusedSimpArgs false
namespace Jvm.RoadKit
open Sem ClassFile Op Lib Jvm.Stand Jvm.Free Jvm.LawKit
section New
variable {p : Program} {l : Launch} {e : Env} {R : Room} {s : State} {m : MethodId} {args : Array Value} {below : List Frame} {meth : Method} {c : Code} {T : State} {locs : List Loc} {cells slots : Nat}
theorem retI (X : Stand p l e R s m args below meth c T locs cells slots) (hx : p.tables.exec = Jvm.exec) {pc : Nat} {Ls : Array Slot} {z : Int32} {rest : List Value} (hret : meth.sig.returnType = some .int) (hd : decode c.code pc = .ok (.ireturn, 1)) {fs : List Frame}
    (hl : ∀ (f : JFrame) (acts : List Action), f.method = m → f.locked = none → f.entered = [] → (doReturn e (T.setTop f) acts (some (.int z))).1 = T.setFrames fs) : Steps p.tables e below (T.setTop (mkF m pc Ls (.int z :: rest))) (T.setFrames fs) := by
  have hm' : T.vm.method? m = some meth := X.method'
  have hn : narrow .int (.int z) = .int z := rfl
  show Steps p.tables e below (T.setTop { method := m, pc := pc, locals := Ls, stack := _ :: rest, locked := none }) _
  jvm_step X.here [X.here.top, hx, hd, hm', hret, hn]
  first | (intro acts; rw [hl _ acts rfl rfl rfl]) | rw [hl _ _ rfl rfl rfl]
  exact Steps.refl _
end New
end Jvm.RoadKit
namespace Jvm.Pilot.@@N@@
open Jvm Jvm.ClassFile Sem Op Lib Jvm.Free Jvm.Stand Jvm.LawKit Jvm.RoadKit Bundle Jvm.Pilot.@@N@@.Jvm.D
theorem own_irem (x y : Int32) (d : Int) (hy : y.toInt = d) (hd1 : y ≠ -1) (hd : 0 < d) (h0 : 0 ≤ x.toInt) : (x - (x / y) * y).toInt = x.toInt % d := by
  have h1 := (c_idiv x y d hy hd1).1 h0
  have h2 := c_imul (x / y) y
  have h3 := c_isub x ((x / y) * y)
  have r := rng32 (x - (x / y) * y)
  have ry := rng32 y
  have e := Int.emod_add_mul_ediv x.toInt d
  have m0 := Int.emod_nonneg x.toInt (by omega : d ≠ 0)
  have m1 := Int.emod_lt_of_pos x.toInt hd
  rw [h1, hy, Int.mul_comm] at h2
  omega
theorem d2_0 : decode prog_10_method_1_code 0 = .ok (.aload_n 0, 1) := by decide +kernel
theorem d2_1 : decode prog_10_method_1_code 1 = .ok (.invokespecial 5, 3) := by decide +kernel
theorem d2_4 : decode prog_10_method_1_code 4 = .ok (.aload_n 0, 1) := by decide +kernel
theorem d2_5 : decode prog_10_method_1_code 5 = .ok (.lload_n 1, 1) := by decide +kernel
theorem d2_6 : decode prog_10_method_1_code 6 = .ok (.putfield 11, 3) := by decide +kernel
theorem d2_9 : decode prog_10_method_1_code 9 = .ok (.aload_n 0, 1) := by decide +kernel
theorem d2_10 : decode prog_10_method_1_code 10 = .ok (.iload_n 3, 1) := by decide +kernel
theorem d2_11 : decode prog_10_method_1_code 11 = .ok (.putfield 17, 3) := by decide +kernel
theorem d2_14 : decode prog_10_method_1_code 14 = .ok (.return_, 1) := by decide +kernel
theorem pn_2 : plainName "com/example/keysieve/keysieve/Placement" = true := by first | (simp [plainName, overriddenIn]; done) | decide +kernel
theorem ef_init (m : MethodId) (x0 : Addr) (x1 : Int64) (x2 : Int32) : entryFrame m #[(.ref x0), (.long x1), (.int x2)] 4 = mkF m 0 #[.val (.ref x0), .val (.long x1), .second, .val (.int x2)] [] := by first | (simp [entryFrame, mkF, argsToLocals, Value.category]; done) | rfl
def Qinit (Z : State) (a1 : Addr) (q2 : Int64) (p3 : Int32) (h0 : Heap) (n0 : Nat) (v : Option Value) (h : Heap) (L : List Loc) : Prop := v = none ∧ Fr n0 L ∧ Keep h0 h [a1] ∧ Exa Z h a1 "com/example/keysieve/keysieve/Placement" ∧ Fld Z h a1 "com/example/keysieve/keysieve/Placement" "bits" "J" (.long q2) ∧ Fld Z h a1 "com/example/keysieve/keysieve/Placement" "hashes" "I" (.int p3)
set_option maxRecDepth 65536 in
set_option maxHeartbeats 40000000 in
theorem rm_init (l : Launch) (Z : State) (a0 : Array Value) (hw : ∀ d ∈ tables_1, d.before a0 Z = true) (ws : List Jvm.Cond) (a1 : Addr) (q2 : Int64) (p3 : Int32) (h0 : Heap) (n0 : Nat) (Z0 : n0 ≤ h0.size) (E_a1 : Exa Z h0 a1 "com/example/keysieve/keysieve/Placement") (Fb_a1 : Fld Z h0 a1 "com/example/keysieve/keysieve/Placement" "bits" "J" (.long (0 : Int64))) (Fh_a1 : Fld Z h0 a1 "com/example/keysieve/keysieve/Placement" "hashes" "I" (.int (0 : Int32))) (g_a1 : n0 ≤ a1) :
    MetFree l (⟨"com/example/keysieve/keysieve/Placement", "<init>", "(JI)V"⟩ : MethodName) (head1 (Jvm.Cond.code (⟨"com/example/keysieve/keysieve/Placement", "<init>", "(JI)V"⟩ : MethodName) prog_10_method_1_code 4 none :: ws) ({ frames := 1, cells := 0, slots := 0, locals := 12 } : Room)) (fun a U => a = #[(.ref a1), (.long q2), (.int p3)] ∧ Z.Warmed39 U.vm ∧ U.heap = h0) (fun _ _ _ _ _ => True) (fun _ U o U' => ∃ v L, o = .returned v ∧ Qinit Z a1 q2 p3 h0 n0 v U'.heap L ∧ FrameEnd U o U' L ({ frames := 1, cells := 0, slots := 0, locals := 12 } : Room).cells ({ frames := 1, cells := 0, slots := 0, locals := 12 } : Room).slots) := by
  refine MetFree.of_bodySF (plainFor_of_name pn_2) hisR ?_
  intro p e s m args below meth c s₁ Bd hml0 hP hK
  obtain ⟨rfl, hZ, hh⟩ := hP
  have hx := Bd.exec
  have hby := Bd.bytes
  have hml : c.maxLocals = 4 := hml0
  have hown : s.vm.findClass "com/example/keysieve/keysieve/Placement" = some m.cls := findClass_of_methodNamed Bd.named
  have hnm := (name_of_methodNamed Bd.named Bd.method).1
  have X0 : Stand p l e ({ frames := 1, cells := 0, slots := 0, locals := 12 } : Room) s m #[(.ref a1), (.long q2), (.int p3)] below meth c s₁ [] 0 0 := Stand.of_body Bd
  have e0 : s₁.heap = h0 := by rw [← hh, Bd.state]; rfl
  have N0 := Fr.nil n0
  have k0 : ∀ t, Steps p.tables e below (s₁.setTop (mkF m 0 #[.val (.ref a1), .val (.long q2), .second, .val (.int p3)] [])) t → Steps p.tables e below (s₁.setTop (entryFrame m #[(.ref a1), (.long q2), (.int p3)] 4)) t := fun t k => castTop (ef_init m a1 q2 p3) k
  obtain ⟨T1, X1, e1, st1⟩ := initO X0 hx hZ hown (hw _ (List.mem_of_getElem? (i := 13) rfl)) (hw _ (List.mem_of_getElem? (i := 14) rfl)) (hw _ (List.mem_of_getElem? (i := 15) rfl)) e0 (g := (mkF m 1 #[.val (.ref a1), .val (.long q2), .second, .val (.int p3)] [(.ref a1)])) rfl (by rw [hml]; rfl) rfl (hb hby d2_1) (by decide) (W := 0) (by show 2 * 0 + _ ≤ _; exact Nat.le_of_eq rfl) (by decide)
  obtain ⟨T2, h2, X2, e2, W2, st2⟩ := putF X1 hx hZ hown (host := "") (Or.inl (hw _ (List.mem_of_getElem? (i := 16) rfl))) Via.refl e1 Fb_a1 E_a1 (Or.inr ⟨(hw _ (List.mem_of_getElem? (i := 17) rfl)), rfl, hnm⟩) (hw _ (List.mem_of_getElem? (i := 9) rfl)) (ty := .long) (by decide) rfl rfl (g := (mkF m 6 #[.val (.ref a1), .val (.long q2), .second, .val (.int p3)] [(.long q2), (.ref a1)])) rfl rfl (hb hby d2_6)
  have N2 := Fr.snoc X2 N0 g_a1
  have F3 : Fld Z h2 a1 "com/example/keysieve/keysieve/Placement" "bits" "J" (.long q2) := Fb_a1.same W2
  have E4 : Exa Z h2 a1 "com/example/keysieve/keysieve/Placement" := E_a1.wr W2
  have F5 : Fld Z h2 a1 "com/example/keysieve/keysieve/Placement" "hashes" "I" (.int (0 : Int32)) := Fh_a1.other W2 (Or.inr (slot_ne (Or.inr (hw _ (List.mem_of_getElem? (i := 19) rfl))) (Or.inr (hw _ (List.mem_of_getElem? (i := 17) rfl))) (by decide) (t := .int) (t' := .long) (by decide) (by decide)))
  have K6 : Keep h0 h2 [a1] := (Keep.refl h0 [a1]).wr W2 (Or.inl (List.mem_of_getElem? (i := 0) rfl))
  obtain ⟨T7, h7, X7, e7, W7, st7⟩ := putF X2 hx hZ hown (host := "") (Or.inl (hw _ (List.mem_of_getElem? (i := 18) rfl))) Via.refl e2 F5 E4 (Or.inr ⟨(hw _ (List.mem_of_getElem? (i := 19) rfl)), rfl, hnm⟩) (hw _ (List.mem_of_getElem? (i := 9) rfl)) (ty := .int) (by decide) rfl rfl (g := (mkF m 11 #[.val (.ref a1), .val (.long q2), .second, .val (.int p3)] [(.int p3), (.ref a1)])) rfl rfl (hb hby d2_11)
  have N7 := Fr.snoc X7 N2 g_a1
  have F8 : Fld Z h7 a1 "com/example/keysieve/keysieve/Placement" "hashes" "I" (.int p3) := F5.same W7
  have E9 : Exa Z h7 a1 "com/example/keysieve/keysieve/Placement" := E4.wr W7
  have F10 : Fld Z h7 a1 "com/example/keysieve/keysieve/Placement" "bits" "J" (.long q2) := F3.other W7 (Or.inr (slot_ne (Or.inr (hw _ (List.mem_of_getElem? (i := 17) rfl))) (Or.inr (hw _ (List.mem_of_getElem? (i := 19) rfl))) (by decide) (t := .long) (t' := .int) (by decide) (by decide)))
  have K11 : Keep h0 h7 [a1] := K6.wr W7 (Or.inl (List.mem_of_getElem? (i := 0) rfl))
  have k13 : ∀ t, Steps p.tables e below (T7.setTop (mkF m 14 #[.val (.ref a1), .val (.long q2), .second, .val (.int p3)] [])) t → Steps p.tables e below (s₁.setTop (entryFrame m #[(.ref a1), (.long q2), (.int p3)] 4)) t := fun t k => k0 t (by
    show Steps p.tables e below (s₁.setTop (mkF m 0 #[.val (.ref a1), .val (.long q2), .second, .val (.int p3)] [])) _
    refine XS.aloadN X0.here hx rfl (hb hby d2_0) rfl rfl ?_
    show Steps p.tables e below (s₁.setTop (mkF m 1 #[.val (.ref a1), .val (.long q2), .second, .val (.int p3)] [(.ref a1)])) _
    refine st1 _ ?_
    show Steps p.tables e below (T1.setTop (mkF m 4 #[.val (.ref a1), .val (.long q2), .second, .val (.int p3)] [])) _
    refine XS.aloadN X1.here hx rfl (hb hby d2_4) rfl rfl ?_
    show Steps p.tables e below (T1.setTop (mkF m 5 #[.val (.ref a1), .val (.long q2), .second, .val (.int p3)] [(.ref a1)])) _
    refine XS.lloadN X1.here hx rfl (hb hby d2_5) rfl ?_
    show Steps p.tables e below (T1.setTop (mkF m 6 #[.val (.ref a1), .val (.long q2), .second, .val (.int p3)] [(.long q2), (.ref a1)])) _
    refine st2 _ ?_
    show Steps p.tables e below (T2.setTop (mkF m 9 #[.val (.ref a1), .val (.long q2), .second, .val (.int p3)] [])) _
    refine XS.aloadN X2.here hx rfl (hb hby d2_9) rfl rfl ?_
    show Steps p.tables e below (T2.setTop (mkF m 10 #[.val (.ref a1), .val (.long q2), .second, .val (.int p3)] [(.ref a1)])) _
    refine XS.iloadN X2.here hx rfl (hb hby d2_10) rfl ?_
    show Steps p.tables e below (T2.setTop (mkF m 11 #[.val (.ref a1), .val (.long q2), .second, .val (.int p3)] [(.int p3), (.ref a1)])) _
    refine st7 _ ?_
    exact k)
  obtain ⟨fs, hr, hrun, hended, hW, hsame⟩ := X7.leave (v := none) (fun _ => rfl)
  refine ⟨_, _, k13 _ ?_, hrun, hended, _, _, rfl, ?_, ⟨_, rfl⟩, hW, hsame.mono (by decide) (by decide)⟩
  · show Steps p.tables e below (T7.setTop (mkF m 14 #[.val (.ref a1), .val (.long q2), .second, .val (.int p3)] [])) _
    exact X7.returnOut hx Bd.returns (hb hby d2_14) hr
  ·
    show Qinit _ a1 q2 p3 h0 n0 _ T7.heap _
    rw [e7]
    exact ⟨rfl, N7, K11, E9, F10, F8⟩
theorem d4_0 : decode prog_10_method_3_code 0 = .ok (.aload_n 0, 1) := by decide +kernel
theorem d4_1 : decode prog_10_method_3_code 1 = .ok (.getfield 11, 3) := by decide +kernel
theorem d4_4 : decode prog_10_method_3_code 4 = .ok (.lreturn, 1) := by decide +kernel
theorem pn_4 : plainName "com/example/keysieve/keysieve/Placement" = true := by first | (simp [plainName, overriddenIn]; done) | decide +kernel
theorem ef_bits (m : MethodId) (x0 : Addr) : entryFrame m #[(.ref x0)] 1 = mkF m 0 #[.val (.ref x0)] [] := by first | (simp [entryFrame, mkF, argsToLocals, Value.category]; done) | rfl
def Qbits (Z : State) (a1 : Addr) (w : Int64) (h0 : Heap) (n0 : Nat) (v : Option Value) (h : Heap) (L : List Loc) : Prop := v = some (.long w) ∧ Fr n0 L ∧ h = h0
set_option maxRecDepth 65536 in
set_option maxHeartbeats 40000000 in
theorem rm_bits (l : Launch) (Z : State) (a0 : Array Value) (hw : ∀ d ∈ tables_1, d.before a0 Z = true) (ws : List Jvm.Cond) (a1 : Addr) (w : Int64) (h0 : Heap) (n0 : Nat) (Z0 : n0 ≤ h0.size) (Fb_a1 : Fld Z h0 a1 "com/example/keysieve/keysieve/Placement" "bits" "J" (.long w)) :
    MetFree l (⟨"com/example/keysieve/keysieve/Placement", "bits", "()J"⟩ : MethodName) (head1 (Jvm.Cond.code (⟨"com/example/keysieve/keysieve/Placement", "bits", "()J"⟩ : MethodName) prog_10_method_3_code 1 (some .long) :: ws) ({ frames := 0, cells := 0, slots := 0, locals := 0 } : Room)) (fun a U => a = #[(.ref a1)] ∧ Z.Warmed39 U.vm ∧ U.heap = h0) (fun _ _ _ _ _ => True) (fun _ U o U' => ∃ v L, o = .returned v ∧ Qbits Z a1 w h0 n0 v U'.heap L ∧ FrameEnd U o U' L ({ frames := 0, cells := 0, slots := 0, locals := 0 } : Room).cells ({ frames := 0, cells := 0, slots := 0, locals := 0 } : Room).slots) := by
  refine MetFree.of_bodySF (plainFor_of_name pn_4) hisR ?_
  intro p e s m args below meth c s₁ Bd hml0 hP hK
  obtain ⟨rfl, hZ, hh⟩ := hP
  have hx := Bd.exec
  have hby := Bd.bytes
  have hml : c.maxLocals = 1 := hml0
  have hown : s.vm.findClass "com/example/keysieve/keysieve/Placement" = some m.cls := findClass_of_methodNamed Bd.named
  have hnm := (name_of_methodNamed Bd.named Bd.method).1
  have X0 : Stand p l e ({ frames := 0, cells := 0, slots := 0, locals := 0 } : Room) s m #[(.ref a1)] below meth c s₁ [] 0 0 := Stand.of_body Bd
  have e0 : s₁.heap = h0 := by rw [← hh, Bd.state]; rfl
  have N0 := Fr.nil n0
  have k0 : ∀ t, Steps p.tables e below (s₁.setTop (mkF m 0 #[.val (.ref a1)] [])) t → Steps p.tables e below (s₁.setTop (entryFrame m #[(.ref a1)] 1)) t := fun t k => castTop (ef_bits m a1) k
  obtain ⟨T1, X1, e1, st1⟩ := getF X0 hx hZ hown (host := "") (Or.inl (hw _ (List.mem_of_getElem? (i := 16) rfl))) Via.refl e0 Fb_a1 (g := (mkF m 1 #[.val (.ref a1)] [(.ref a1)])) rfl rfl (hb hby d4_1)
  have k3 : ∀ t, Steps p.tables e below (T1.setTop (mkF m 4 #[.val (.ref a1)] [(.long w)])) t → Steps p.tables e below (s₁.setTop (entryFrame m #[(.ref a1)] 1)) t := fun t k => k0 t (by
    show Steps p.tables e below (s₁.setTop (mkF m 0 #[.val (.ref a1)] [])) _
    refine XS.aloadN X0.here hx rfl (hb hby d4_0) rfl rfl ?_
    show Steps p.tables e below (s₁.setTop (mkF m 1 #[.val (.ref a1)] [(.ref a1)])) _
    refine st1 _ ?_
    exact k)
  obtain ⟨fs, hr, hrun, hended, hW, hsame⟩ := X1.leave (v := some (.long w)) (fun h => by rw [Bd.returns] at h; cases h)
  refine ⟨_, _, k3 _ ?_, hrun, hended, _, _, rfl, ?_, ⟨_, rfl⟩, hW, hsame.mono (by decide) (by decide)⟩
  · show Steps p.tables e below (T1.setTop (mkF m 4 #[.val (.ref a1)] [(.long w)])) _
    jvm_step X1.here [X1.here.top, hx, (hb hby d4_4), X1.method', Bd.returns, narrow]
    first | (intro acts; rw [hr _ acts rfl rfl rfl]) | rw [hr _ _ rfl rfl rfl]
    exact Steps.refl _
  ·
    show Qbits _ a1 w h0 n0 _ T1.heap _
    rw [e1]
    exact ⟨rfl, N0, rfl⟩
theorem d5_0 : decode prog_10_method_4_code 0 = .ok (.aload_n 0, 1) := by decide +kernel
theorem d5_1 : decode prog_10_method_4_code 1 = .ok (.getfield 17, 3) := by decide +kernel
theorem d5_4 : decode prog_10_method_4_code 4 = .ok (.ireturn, 1) := by decide +kernel
theorem pn_5 : plainName "com/example/keysieve/keysieve/Placement" = true := by first | (simp [plainName, overriddenIn]; done) | decide +kernel
theorem ef_hashes (m : MethodId) (x0 : Addr) : entryFrame m #[(.ref x0)] 1 = mkF m 0 #[.val (.ref x0)] [] := by first | (simp [entryFrame, mkF, argsToLocals, Value.category]; done) | rfl
def Qhashes (Z : State) (a1 : Addr) (w : Int32) (h0 : Heap) (n0 : Nat) (v : Option Value) (h : Heap) (L : List Loc) : Prop := v = some (.int w) ∧ Fr n0 L ∧ h = h0
set_option maxRecDepth 65536 in
set_option maxHeartbeats 40000000 in
theorem rm_hashes (l : Launch) (Z : State) (a0 : Array Value) (hw : ∀ d ∈ tables_1, d.before a0 Z = true) (ws : List Jvm.Cond) (a1 : Addr) (w : Int32) (h0 : Heap) (n0 : Nat) (Z0 : n0 ≤ h0.size) (Fh_a1 : Fld Z h0 a1 "com/example/keysieve/keysieve/Placement" "hashes" "I" (.int w)) :
    MetFree l (⟨"com/example/keysieve/keysieve/Placement", "hashes", "()I"⟩ : MethodName) (head1 (Jvm.Cond.code (⟨"com/example/keysieve/keysieve/Placement", "hashes", "()I"⟩ : MethodName) prog_10_method_4_code 1 (some .int) :: ws) ({ frames := 0, cells := 0, slots := 0, locals := 0 } : Room)) (fun a U => a = #[(.ref a1)] ∧ Z.Warmed39 U.vm ∧ U.heap = h0) (fun _ _ _ _ _ => True) (fun _ U o U' => ∃ v L, o = .returned v ∧ Qhashes Z a1 w h0 n0 v U'.heap L ∧ FrameEnd U o U' L ({ frames := 0, cells := 0, slots := 0, locals := 0 } : Room).cells ({ frames := 0, cells := 0, slots := 0, locals := 0 } : Room).slots) := by
  refine MetFree.of_bodySF (plainFor_of_name pn_5) hisR ?_
  intro p e s m args below meth c s₁ Bd hml0 hP hK
  obtain ⟨rfl, hZ, hh⟩ := hP
  have hx := Bd.exec
  have hby := Bd.bytes
  have hml : c.maxLocals = 1 := hml0
  have hown : s.vm.findClass "com/example/keysieve/keysieve/Placement" = some m.cls := findClass_of_methodNamed Bd.named
  have hnm := (name_of_methodNamed Bd.named Bd.method).1
  have X0 : Stand p l e ({ frames := 0, cells := 0, slots := 0, locals := 0 } : Room) s m #[(.ref a1)] below meth c s₁ [] 0 0 := Stand.of_body Bd
  have e0 : s₁.heap = h0 := by rw [← hh, Bd.state]; rfl
  have N0 := Fr.nil n0
  have k0 : ∀ t, Steps p.tables e below (s₁.setTop (mkF m 0 #[.val (.ref a1)] [])) t → Steps p.tables e below (s₁.setTop (entryFrame m #[(.ref a1)] 1)) t := fun t k => castTop (ef_hashes m a1) k
  obtain ⟨T1, X1, e1, st1⟩ := getF X0 hx hZ hown (host := "") (Or.inl (hw _ (List.mem_of_getElem? (i := 18) rfl))) Via.refl e0 Fh_a1 (g := (mkF m 1 #[.val (.ref a1)] [(.ref a1)])) rfl rfl (hb hby d5_1)
  have k3 : ∀ t, Steps p.tables e below (T1.setTop (mkF m 4 #[.val (.ref a1)] [(.int w)])) t → Steps p.tables e below (s₁.setTop (entryFrame m #[(.ref a1)] 1)) t := fun t k => k0 t (by
    show Steps p.tables e below (s₁.setTop (mkF m 0 #[.val (.ref a1)] [])) _
    refine XS.aloadN X0.here hx rfl (hb hby d5_0) rfl rfl ?_
    show Steps p.tables e below (s₁.setTop (mkF m 1 #[.val (.ref a1)] [(.ref a1)])) _
    refine st1 _ ?_
    exact k)
  obtain ⟨fs, hr, hrun, hended, hW, hsame⟩ := X1.leave (v := some (.int w)) (fun h => by rw [Bd.returns] at h; cases h)
  refine ⟨_, _, k3 _ ?_, hrun, hended, _, _, rfl, ?_, ⟨_, rfl⟩, hW, hsame.mono (by decide) (by decide)⟩
  · show Steps p.tables e below (T1.setTop (mkF m 4 #[.val (.ref a1)] [(.int w)])) _
    exact retI X1 hx Bd.returns (hb hby d5_4) hr
  ·
    show Qhashes _ a1 w h0 n0 _ T1.heap _
    rw [e1]
    exact ⟨rfl, N0, rfl⟩
theorem pd__JI_V : parseMethodDescriptor "(JI)V" = some ⟨[.long, .int], none⟩ := by decide +kernel
theorem d1_0 : decode prog_10_method_2_code 0 = .ok (.lload_n 0, 1) := by decide +kernel
theorem d1_1 : decode prog_10_method_2_code 1 = .ok (.lconst 1, 1) := by decide +kernel
theorem d1_2 : decode prog_10_method_2_code 2 = .ok (.lcmp, 1) := by decide +kernel
theorem d1_3 : decode prog_10_method_2_code 3 = .ok (.ifCond .lt 11, 3) := by decide +kernel
theorem d1_6 : decode prog_10_method_2_code 6 = .ok (.lload_n 0, 1) := by decide +kernel
theorem d1_7 : decode prog_10_method_2_code 7 = .ok (.ldc2_w 21, 3) := by decide +kernel
theorem d1_10 : decode prog_10_method_2_code 10 = .ok (.lcmp, 1) := by decide +kernel
theorem d1_11 : decode prog_10_method_2_code 11 = .ok (.ifCond .le 17, 3) := by decide +kernel
theorem d1_28 : decode prog_10_method_2_code 28 = .ok (.iload_n 2, 1) := by decide +kernel
theorem d1_29 : decode prog_10_method_2_code 29 = .ok (.iconst 1, 1) := by decide +kernel
theorem d1_30 : decode prog_10_method_2_code 30 = .ok (.if_icmp .lt 10, 3) := by decide +kernel
theorem d1_33 : decode prog_10_method_2_code 33 = .ok (.iload_n 2, 1) := by decide +kernel
theorem d1_34 : decode prog_10_method_2_code 34 = .ok (.sipush 255, 3) := by decide +kernel
theorem d1_37 : decode prog_10_method_2_code 37 = .ok (.if_icmp .le 17, 3) := by decide +kernel
theorem d1_54 : decode prog_10_method_2_code 54 = .ok (.lload_n 0, 1) := by decide +kernel
theorem d1_55 : decode prog_10_method_2_code 55 = .ok (.ldc2_w 35, 3) := by decide +kernel
theorem d1_58 : decode prog_10_method_2_code 58 = .ok (.ladd, 1) := by decide +kernel
theorem d1_59 : decode prog_10_method_2_code 59 = .ok (.lconst 1, 1) := by decide +kernel
theorem d1_60 : decode prog_10_method_2_code 60 = .ok (.lsub, 1) := by decide +kernel
theorem d1_61 : decode prog_10_method_2_code 61 = .ok (.ldc2_w 35, 3) := by decide +kernel
theorem d1_64 : decode prog_10_method_2_code 64 = .ok (.ldiv, 1) := by decide +kernel
theorem d1_65 : decode prog_10_method_2_code 65 = .ok (.lstore_n 3, 1) := by decide +kernel
theorem d1_66 : decode prog_10_method_2_code 66 = .ok (.new 12, 3) := by decide +kernel
theorem d1_69 : decode prog_10_method_2_code 69 = .ok (.dup, 1) := by decide +kernel
theorem d1_70 : decode prog_10_method_2_code 70 = .ok (.lload_n 3, 1) := by decide +kernel
theorem d1_71 : decode prog_10_method_2_code 71 = .ok (.ldc2_w 35, 3) := by decide +kernel
theorem d1_74 : decode prog_10_method_2_code 74 = .ok (.lmul, 1) := by decide +kernel
theorem d1_75 : decode prog_10_method_2_code 75 = .ok (.iload_n 2, 1) := by decide +kernel
theorem d1_76 : decode prog_10_method_2_code 76 = .ok (.invokespecial 37, 3) := by decide +kernel
theorem d1_79 : decode prog_10_method_2_code 79 = .ok (.areturn, 1) := by decide +kernel
theorem pn_1 : plainName "com/example/keysieve/keysieve/Placement" = true := by first | (simp [plainName, overriddenIn]; done) | decide +kernel
theorem ef_of (m : MethodId) (x0 : Int64) (x1 : Int32) : entryFrame m #[(.long x0), (.int x1)] 5 = mkF m 0 #[.val (.long x0), .second, .val (.int x1), .unset, .unset] [] := by first | (simp [entryFrame, mkF, argsToLocals, Value.category]; done) | rfl
def Qof (Z : State) (q1 : Int64) (p2 : Int32) (h0 : Heap) (n0 : Nat) (v : Option Value) (h : Heap) (L : List Loc) : Prop := v = some (.ref h0.size) ∧ Fr n0 L ∧ Keep h0 h [] ∧ Exa Z h h0.size "com/example/keysieve/keysieve/Placement" ∧ Fld Z h h0.size "com/example/keysieve/keysieve/Placement" "bits" "J" (.long (((((q1) + (64 : Int64)) - (1 : Int64)) / (64 : Int64)) * (64 : Int64))) ∧ Fld Z h h0.size "com/example/keysieve/keysieve/Placement" "hashes" "I" (.int p2)
set_option maxRecDepth 65536 in
set_option maxHeartbeats 40000000 in
theorem rm_of (l : Launch) (Z : State) (a0 : Array Value) (hw : ∀ d ∈ tables_1, d.before a0 Z = true) (ws : List Jvm.Cond) (q1 : Int64) (p2 : Int32) (h0 : Heap) (n0 : Nat) (Z0 : n0 ≤ h0.size) (c1 : ¬ q1 < (1 : Int64)) (c2 : ¬ (137438953408 : Int64) < q1) (c3 : ¬ p2 < (1 : Int32)) (c4 : ¬ (255 : Int32) < p2) :
    MetFree l (⟨"com/example/keysieve/keysieve/Placement", "of", "(JI)Lcom/example/keysieve/keysieve/Placement;"⟩ : MethodName) (head1 (Jvm.Cond.code (⟨"com/example/keysieve/keysieve/Placement", "of", "(JI)Lcom/example/keysieve/keysieve/Placement;"⟩ : MethodName) prog_10_method_2_code 5 (some (.object "com/example/keysieve/keysieve/Placement")) :: ws) ({ frames := 2, cells := 1, slots := 2, locals := 28 } : Room)) (fun a U => a = #[(.long q1), (.int p2)] ∧ Z.Warmed39 U.vm ∧ U.heap = h0) (fun _ _ _ _ _ => True) (fun _ U o U' => ∃ v L, o = .returned v ∧ Qof Z q1 p2 h0 n0 v U'.heap L ∧ FrameEnd U o U' L ({ frames := 2, cells := 1, slots := 2, locals := 28 } : Room).cells ({ frames := 2, cells := 1, slots := 2, locals := 28 } : Room).slots) := by
  refine MetFree.of_bodySF (plainFor_of_name pn_1) hisR ?_
  intro p e s m args below meth c s₁ Bd hml0 hP hK
  obtain ⟨rfl, hZ, hh⟩ := hP
  have hx := Bd.exec
  have hby := Bd.bytes
  have hml : c.maxLocals = 5 := hml0
  have hown : s.vm.findClass "com/example/keysieve/keysieve/Placement" = some m.cls := findClass_of_methodNamed Bd.named
  have hnm := (name_of_methodNamed Bd.named Bd.method).1
  have X0 : Stand p l e ({ frames := 2, cells := 1, slots := 2, locals := 28 } : Room) s m #[(.long q1), (.int p2)] below meth c s₁ [] 0 0 := Stand.of_body Bd
  have e0 : s₁.heap = h0 := by rw [← hh, Bd.state]; rfl
  have N0 := Fr.nil n0
  have k0 : ∀ t, Steps p.tables e below (s₁.setTop (mkF m 0 #[.val (.long q1), .second, .val (.int p2), .unset, .unset] [])) t → Steps p.tables e below (s₁.setTop (entryFrame m #[(.long q1), (.int p2)] 5)) t := fun t k => castTop (ef_of m q1 p2) k
  obtain ⟨T1, h1, X1, e1, Ex1, A1, D1, -, st1⟩ := newO X0 hx hZ hown (hw _ (List.mem_of_getElem? (i := 8) rfl)) (hw _ (List.mem_of_getElem? (i := 9) rfl)) (hw _ (List.mem_of_getElem? (i := 4) rfl)) e0 (g := (mkF m 66 #[.val (.long q1), .second, .val (.int p2), .val (.long (((q1 + (64 : Int64)) - (1 : Int64)) / (64 : Int64))), .second] [])) rfl (hb hby d1_66) (by decide) (by decide)
  obtain ⟨b1, g1⟩ : ∃ z, z = h0.size := ⟨_, rfl⟩
  rw [← g1] at A1 D1 st1
  have sz_b1 : h0.size ≤ b1 := Nat.le_trans (Keep.refl h0 []).1 (Nat.le_of_eq g1.symm)
  have g_b1 : n0 ≤ b1 := Nat.le_trans Z0 sz_b1
  have E2 : Exa Z h1 b1 "com/example/keysieve/keysieve/Placement" := A1
  have F3 : Fld Z h1 b1 "com/example/keysieve/keysieve/Placement" "bits" "J" (.long (0 : Int64)) := D1 (Or.inr (hw _ (List.mem_of_getElem? (i := 17) rfl))) (ty := .long) (by decide)
  have F4 : Fld Z h1 b1 "com/example/keysieve/keysieve/Placement" "hashes" "I" (.int (0 : Int32)) := D1 (Or.inr (hw _ (List.mem_of_getElem? (i := 19) rfl))) (ty := .int) (by decide)
  have K5 : Keep h0 h1 [] := (Keep.refl h0 []).ext Ex1
  obtain ⟨_, _, ⟨T6, L6, kk6, n6⟩, -, X6, ⟨Lc6, hQ6, l6, y6, z6⟩, st6⟩ := X1.specialBack hx (y := (⟨"com/example/keysieve/keysieve/Placement", "<init>", "(JI)V"⟩ : MethodName)) rfl hown (mvT hZ (hw _ (List.mem_of_getElem? (i := 10) rfl))) (mvT hZ (hw _ (List.mem_of_getElem? (i := 11) rfl))) (mvT hZ (hw _ (List.mem_of_getElem? (i := 12) rfl))) (by decide) (backOf (W := 1) (rm_init l Z a0 hw [] b1 ((((q1 + (64 : Int64)) - (1 : Int64)) / (64 : Int64)) * (64 : Int64)) p2 h1 n0 (Nat.le_trans Z0 K5.1) E2 F3 F4 g_b1) hZ (hw _ (List.mem_of_getElem? (i := 12) rfl)) (hw _ (List.mem_of_getElem? (i := 4) rfl)) (by decide) (by decide)) (g := (mkF m 76 #[.val (.long q1), .second, .val (.int p2), .val (.long (((q1 + (64 : Int64)) - (1 : Int64)) / (64 : Int64))), .second] [(.int p2), (.long ((((q1 + (64 : Int64)) - (1 : Int64)) / (64 : Int64)) * (64 : Int64))), (.ref b1), (.ref b1)])) rfl (by rw [hml]; rfl) (Steps.refl _) (a := b1) (argsL := [(.long ((((q1 + (64 : Int64)) - (1 : Int64)) / (64 : Int64)) * (64 : Int64))), (.int p2)]) (rest := [(.ref b1)]) (lenOf pd__JI_V rfl) rfl (by show 2 * 0 + _ ≤ _; exact Nat.le_of_eq rfl) (hb hby d1_76) (fun _ _ => ⟨rfl, e1, (by decide : 1 + 0 ≤ _), (by decide : 2 + 0 ≤ _)⟩)
  dsimp only [Pt.U, Pt.locs, Pt.cells, Pt.slots] at X6 l6 y6 z6 st6 hQ6
  subst l6 y6 z6
  obtain ⟨rfl, N6q, Ki, Ei, Fi, Gi⟩ := hQ6
  have N6 := Fr.app N0 N6q
  have K7 : Keep h0 T6.heap [] := K5.trans Ki (allS (Or.inr sz_b1) all0)
  have k9 : ∀ t, Steps p.tables e below (T6.setTop (mkF m 79 #[.val (.long q1), .second, .val (.int p2), .val (.long (((q1 + (64 : Int64)) - (1 : Int64)) / (64 : Int64))), .second] [(.ref b1)])) t → Steps p.tables e below (s₁.setTop (entryFrame m #[(.long q1), (.int p2)] 5)) t := fun t k => k0 t (by
    show Steps p.tables e below (s₁.setTop (mkF m 0 #[.val (.long q1), .second, .val (.int p2), .unset, .unset] [])) _
    refine XS.lloadN X0.here hx rfl (hb hby d1_0) rfl ?_
    show Steps p.tables e below (s₁.setTop (mkF m 1 #[.val (.long q1), .second, .val (.int p2), .unset, .unset] [(.long q1)])) _
    refine XS.lconst X0.here hx rfl (hb hby d1_1) ?_
    show Steps p.tables e below (s₁.setTop (mkF m 2 #[.val (.long q1), .second, .val (.int p2), .unset, .unset] [(.long (1 : Int64)), (.long q1)])) _
    refine XS.lcmp X0.here hx rfl (hb hby d1_2) rfl ?_
    show Steps p.tables e below (s₁.setTop (mkF m 3 #[.val (.long q1), .second, .val (.int p2), .unset, .unset] [(.int (lcmpW q1 (1 : Int64)))])) _
    refine XS.ifNo X0.here hx rfl (hb hby d1_3) rfl ((if0 _ _).trans (flt (fun q => c1 ((lw_lt q1 (1 : Int64)).mp q))).1) ?_
    show Steps p.tables e below (s₁.setTop (mkF m 6 #[.val (.long q1), .second, .val (.int p2), .unset, .unset] [])) _
    refine XS.lloadN X0.here hx rfl (hb hby d1_6) rfl ?_
    show Steps p.tables e below (s₁.setTop (mkF m 7 #[.val (.long q1), .second, .val (.int p2), .unset, .unset] [(.long q1)])) _
    refine X0.ldc2Long hx hown (mvT hZ (hw _ (List.mem_of_getElem? (i := 6) rfl))) (g := (mkF m 7 #[.val (.long q1), .second, .val (.int p2), .unset, .unset] [(.long q1)])) rfl (hb hby d1_7) _ ?_
    show Steps p.tables e below (s₁.setTop (mkF m 10 #[.val (.long q1), .second, .val (.int p2), .unset, .unset] [(.long (137438953408 : Int64)), (.long q1)])) _
    refine XS.lcmp X0.here hx rfl (hb hby d1_10) rfl ?_
    show Steps p.tables e below (s₁.setTop (mkF m 11 #[.val (.long q1), .second, .val (.int p2), .unset, .unset] [(.int (lcmpW q1 (137438953408 : Int64)))])) _
    refine XS.ifYes X0.here hx rfl (pc0 := 11) (pc' := 28) rfl (hb hby d1_11) rfl ((if0 _ _).trans (flt (fun q => c2 ((lw_gt q1 (137438953408 : Int64)).mp q))).2.2.2) (by decide) (by decide) ?_
    show Steps p.tables e below (s₁.setTop (mkF m 28 #[.val (.long q1), .second, .val (.int p2), .unset, .unset] [])) _
    refine XS.iloadN X0.here hx rfl (hb hby d1_28) rfl ?_
    show Steps p.tables e below (s₁.setTop (mkF m 29 #[.val (.long q1), .second, .val (.int p2), .unset, .unset] [(.int p2)])) _
    refine XS.iconst X0.here hx rfl (hb hby d1_29) ?_
    show Steps p.tables e below (s₁.setTop (mkF m 30 #[.val (.long q1), .second, .val (.int p2), .unset, .unset] [(.int (1 : Int32)), (.int p2)])) _
    refine XS.icmpNo X0.here hx rfl (hb hby d1_30) rfl (flt c3).1 ?_
    show Steps p.tables e below (s₁.setTop (mkF m 33 #[.val (.long q1), .second, .val (.int p2), .unset, .unset] [])) _
    refine XS.iloadN X0.here hx rfl (hb hby d1_33) rfl ?_
    show Steps p.tables e below (s₁.setTop (mkF m 34 #[.val (.long q1), .second, .val (.int p2), .unset, .unset] [(.int p2)])) _
    refine XS.sipush X0.here hx rfl (hb hby d1_34) ?_
    show Steps p.tables e below (s₁.setTop (mkF m 37 #[.val (.long q1), .second, .val (.int p2), .unset, .unset] [(.int (255 : Int32)), (.int p2)])) _
    refine XS.icmpYes X0.here hx rfl (pc0 := 37) (pc' := 54) rfl (hb hby d1_37) rfl (flt c4).2.2.2 (by decide) (by decide) ?_
    show Steps p.tables e below (s₁.setTop (mkF m 54 #[.val (.long q1), .second, .val (.int p2), .unset, .unset] [])) _
    refine XS.lloadN X0.here hx rfl (hb hby d1_54) rfl ?_
    show Steps p.tables e below (s₁.setTop (mkF m 55 #[.val (.long q1), .second, .val (.int p2), .unset, .unset] [(.long q1)])) _
    refine X0.ldc2Long hx hown (mvT hZ (hw _ (List.mem_of_getElem? (i := 7) rfl))) (g := (mkF m 55 #[.val (.long q1), .second, .val (.int p2), .unset, .unset] [(.long q1)])) rfl (hb hby d1_55) _ ?_
    show Steps p.tables e below (s₁.setTop (mkF m 58 #[.val (.long q1), .second, .val (.int p2), .unset, .unset] [(.long (64 : Int64)), (.long q1)])) _
    refine XS.ladd X0.here hx rfl (hb hby d1_58) rfl ?_
    show Steps p.tables e below (s₁.setTop (mkF m 59 #[.val (.long q1), .second, .val (.int p2), .unset, .unset] [(.long (q1 + (64 : Int64)))])) _
    refine XS.lconst X0.here hx rfl (hb hby d1_59) ?_
    show Steps p.tables e below (s₁.setTop (mkF m 60 #[.val (.long q1), .second, .val (.int p2), .unset, .unset] [(.long (1 : Int64)), (.long (q1 + (64 : Int64)))])) _
    refine XS.lsub X0.here hx rfl (hb hby d1_60) rfl ?_
    show Steps p.tables e below (s₁.setTop (mkF m 61 #[.val (.long q1), .second, .val (.int p2), .unset, .unset] [(.long ((q1 + (64 : Int64)) - (1 : Int64)))])) _
    refine X0.ldc2Long hx hown (mvT hZ (hw _ (List.mem_of_getElem? (i := 7) rfl))) (g := (mkF m 61 #[.val (.long q1), .second, .val (.int p2), .unset, .unset] [(.long ((q1 + (64 : Int64)) - (1 : Int64)))])) rfl (hb hby d1_61) _ ?_
    show Steps p.tables e below (s₁.setTop (mkF m 64 #[.val (.long q1), .second, .val (.int p2), .unset, .unset] [(.long (64 : Int64)), (.long ((q1 + (64 : Int64)) - (1 : Int64)))])) _
    refine XS.ldiv X0.here hx rfl (hb hby d1_64) rfl (by decide) ?_
    show Steps p.tables e below (s₁.setTop (mkF m 65 #[.val (.long q1), .second, .val (.int p2), .unset, .unset] [(.long (((q1 + (64 : Int64)) - (1 : Int64)) / (64 : Int64)))])) _
    refine XS.lstoreN X0.here hx rfl (hb hby d1_65) rfl (l' := #[.val (.long q1), .second, .val (.int p2), .val (.long (((q1 + (64 : Int64)) - (1 : Int64)) / (64 : Int64))), .second]) rfl ?_
    show Steps p.tables e below (s₁.setTop (mkF m 66 #[.val (.long q1), .second, .val (.int p2), .val (.long (((q1 + (64 : Int64)) - (1 : Int64)) / (64 : Int64))), .second] [])) _
    refine st1 _ ?_
    show Steps p.tables e below (T1.setTop (mkF m 69 #[.val (.long q1), .second, .val (.int p2), .val (.long (((q1 + (64 : Int64)) - (1 : Int64)) / (64 : Int64))), .second] [(.ref b1)])) _
    refine XS.dup X1.here hx rfl (hb hby d1_69) rfl rfl ?_
    show Steps p.tables e below (T1.setTop (mkF m 70 #[.val (.long q1), .second, .val (.int p2), .val (.long (((q1 + (64 : Int64)) - (1 : Int64)) / (64 : Int64))), .second] [(.ref b1), (.ref b1)])) _
    refine XS.lloadN X1.here hx rfl (hb hby d1_70) rfl ?_
    show Steps p.tables e below (T1.setTop (mkF m 71 #[.val (.long q1), .second, .val (.int p2), .val (.long (((q1 + (64 : Int64)) - (1 : Int64)) / (64 : Int64))), .second] [(.long (((q1 + (64 : Int64)) - (1 : Int64)) / (64 : Int64))), (.ref b1), (.ref b1)])) _
    refine X1.ldc2Long hx hown (mvT hZ (hw _ (List.mem_of_getElem? (i := 7) rfl))) (g := (mkF m 71 #[.val (.long q1), .second, .val (.int p2), .val (.long (((q1 + (64 : Int64)) - (1 : Int64)) / (64 : Int64))), .second] [(.long (((q1 + (64 : Int64)) - (1 : Int64)) / (64 : Int64))), (.ref b1), (.ref b1)])) rfl (hb hby d1_71) _ ?_
    show Steps p.tables e below (T1.setTop (mkF m 74 #[.val (.long q1), .second, .val (.int p2), .val (.long (((q1 + (64 : Int64)) - (1 : Int64)) / (64 : Int64))), .second] [(.long (64 : Int64)), (.long (((q1 + (64 : Int64)) - (1 : Int64)) / (64 : Int64))), (.ref b1), (.ref b1)])) _
    refine XS.lmul X1.here hx rfl (hb hby d1_74) rfl ?_
    show Steps p.tables e below (T1.setTop (mkF m 75 #[.val (.long q1), .second, .val (.int p2), .val (.long (((q1 + (64 : Int64)) - (1 : Int64)) / (64 : Int64))), .second] [(.long ((((q1 + (64 : Int64)) - (1 : Int64)) / (64 : Int64)) * (64 : Int64))), (.ref b1), (.ref b1)])) _
    refine XS.iloadN X1.here hx rfl (hb hby d1_75) rfl ?_
    show Steps p.tables e below (T1.setTop (mkF m 76 #[.val (.long q1), .second, .val (.int p2), .val (.long (((q1 + (64 : Int64)) - (1 : Int64)) / (64 : Int64))), .second] [(.int p2), (.long ((((q1 + (64 : Int64)) - (1 : Int64)) / (64 : Int64)) * (64 : Int64))), (.ref b1), (.ref b1)])) _
    refine st6.trans ?_
    exact k)
  obtain ⟨fs, hr, hrun, hended, hW, hsame⟩ := X6.leave (v := some (.ref b1)) (fun h => by rw [Bd.returns] at h; cases h)
  refine ⟨_, _, k9 _ ?_, hrun, hended, _, _, rfl, ?_, ⟨_, rfl⟩, hW, hsame.mono (by decide) (by decide)⟩
  · show Steps p.tables e below (T6.setTop (mkF m 79 #[.val (.long q1), .second, .val (.int p2), .val (.long (((q1 + (64 : Int64)) - (1 : Int64)) / (64 : Int64))), .second] [(.ref b1)])) _
    jvm_step X6.here [X6.here.top, hx, (hb hby d1_79), X6.method', Bd.returns, Value.isRef, FieldType.isReference]
    first | (intro acts; rw [hr _ acts rfl rfl rfl]) | rw [hr _ _ rfl rfl rfl]
    exact Steps.refl _
  ·
    subst g1
    show Qof _ q1 p2 h0 n0 _ T6.heap _
    exact ⟨rfl, N6, K7, Ei, Fi, Gi⟩
theorem own_bb (a : Int64) : 1 ≤ (((a &&& (9223372036854775807 : Int64)) - ((a &&& (9223372036854775807 : Int64)) / (137438953408 : Int64)) * (137438953408 : Int64)) + (1 : Int64)).toInt ∧ (((a &&& (9223372036854775807 : Int64)) - ((a &&& (9223372036854775807 : Int64)) / (137438953408 : Int64)) * (137438953408 : Int64)) + (1 : Int64)).toInt ≤ 137438953408 := by
  have h1 := c_maskL a 9223372036854775807 63 (by decide) (by decide)
  have h2 := (c_lrem (a &&& (9223372036854775807 : Int64)) 137438953408 137438953408 (by decide)).1 (by rw [h1]; omega)
  generalize (a &&& (9223372036854775807 : Int64)) - ((a &&& (9223372036854775807 : Int64)) / (137438953408 : Int64)) * (137438953408 : Int64) = y at *
  have z1 : (1 : Int64).toInt = 1 := by decide
  have h3 := c_ladd y (1 : Int64)
  have r3 := rng64 (y + (1 : Int64))
  rw [z1] at h3
  omega
theorem own_hh (b : Int32) : ¬ (((b &&& (255 : Int32)) - ((b &&& (255 : Int32)) / (255 : Int32)) * (255 : Int32)) + (1 : Int32)) < (1 : Int32) ∧ ¬ (255 : Int32) < (((b &&& (255 : Int32)) - ((b &&& (255 : Int32)) / (255 : Int32)) * (255 : Int32)) + (1 : Int32)) := by
  have h1 := c_mask b 255 8 (by decide) (by decide)
  have h2 := own_irem (b &&& (255 : Int32)) 255 255 (by decide) (by decide) (by decide) (by rw [h1]; omega)
  generalize (b &&& (255 : Int32)) - ((b &&& (255 : Int32)) / (255 : Int32)) * (255 : Int32) = y at *
  have z1 : (1 : Int32).toInt = 1 := by decide
  have z2 : (255 : Int32).toInt = 255 := by decide
  have h3 := c_iadd y (1 : Int32)
  have r3 := rng32 (y + (1 : Int32))
  rw [z1] at h3
  simp only [Int32.lt_iff_toInt_lt, z1, z2]
  omega
theorem own_rr (b : Int64) (b0 : 1 ≤ b.toInt) (b1 : b.toInt ≤ 137438953408) : ((((b + (64 : Int64)) - (1 : Int64)) / (64 : Int64)) * (64 : Int64)).toInt = ((b.toInt + 63) / 64) * 64 := by
  have z1 : (1 : Int64).toInt = 1 := by decide
  have z2 : (64 : Int64).toInt = 64 := by decide
  have h1 := c_ladd b (64 : Int64)
  have r1 := rng64 (b + (64 : Int64))
  rw [z2] at h1
  generalize b + (64 : Int64) = y1 at *
  have h2 := c_lsub y1 (1 : Int64)
  have r2 := rng64 (y1 - (1 : Int64))
  rw [z1] at h2
  generalize y1 - (1 : Int64) = y2 at *
  have h3 := (c_ldiv y2 (64 : Int64) 64 z2 (by decide)).1 (by omega)
  have h4 := c_lmul (y2 / (64 : Int64)) (64 : Int64)
  have r4 := rng64 ((y2 / (64 : Int64)) * (64 : Int64))
  rw [z2, h3] at h4
  omega
theorem own_law (b r : Int64) (b0 : 1 ≤ b.toInt) (b1 : b.toInt ≤ 137438953408) (hr : r = (((b + (64 : Int64)) - (1 : Int64)) / (64 : Int64)) * (64 : Int64)) :
    (¬ b < (1 : Int64) ∧ ¬ (137438953408 : Int64) < b) ∧ (r - (r / (64 : Int64)) * (64 : Int64)) = (0 : Int64) ∧ ¬ r < b ∧ (r - b) < (64 : Int64) ∧ (¬ r < (1 : Int64) ∧ ¬ (137438953408 : Int64) < r) ∧ (((r + (64 : Int64)) - (1 : Int64)) / (64 : Int64)) * (64 : Int64) = r := by
  have e := own_rr b b0 b1
  rw [← hr] at e
  have z0 : (0 : Int64).toInt = 0 := by decide
  have z1 : (1 : Int64).toInt = 1 := by decide
  have z2 : (64 : Int64).toInt = 64 := by decide
  have z3 : (137438953408 : Int64).toInt = 137438953408 := by decide
  have h1 := (c_lrem r (64 : Int64) 64 z2).1 (by omega)
  have h2 := c_lsub r b
  have r2 := rng64 (r - b)
  have e' := own_rr r (by omega) (by omega)
  simp only [Int64.lt_iff_toInt_lt, z1, z2, z3, ← Int64.toInt_inj, z0, h1, e']
  omega
theorem pd__JI_Lcom_example_keysieve_keysieve_Placement_ : parseMethodDescriptor "(JI)Lcom/example/keysieve/keysieve/Placement;" = some ⟨[.long, .int], some (.object "com/example/keysieve/keysieve/Placement")⟩ := by decide +kernel
theorem pd___J : parseMethodDescriptor "()J" = some ⟨[], some .long⟩ := by decide +kernel
theorem pd___I : parseMethodDescriptor "()I" = some ⟨[], some .int⟩ := by decide +kernel
theorem pn_0 : plainName "com/example/keysieve/keysieve/PlacementOfPinLaw" = true := by first | (simp [plainName, overriddenIn]; done) | decide +kernel
theorem ef_law (m : MethodId) (x0 : Int64) (x1 : Int32) : entryFrame m #[(.long x0), (.int x1)] maxLocals = mkF m 0 #[.val (.long x0), .second, .val (.int x1), .unset, .unset, .unset, .unset, .unset, .unset, .unset, .unset, .unset] [] := by first | (simp [entryFrame, mkF, argsToLocals, Value.category, maxLocals]; done) | rfl
def Qlaw (Z : State) (q1 : Int64) (p2 : Int32) (h0 : Heap) (n0 : Nat) (v : Option Value) (h : Heap) (L : List Loc) : Prop := v = some (.int (1 : Int32)) ∧ Fr n0 L
set_option maxRecDepth 65536 in
set_option maxHeartbeats 40000000 in
theorem rm_law (l : Launch) (Z : State) (a0 : Array Value) (hw : ∀ d ∈ tables_1, d.before a0 Z = true) (ws : List Jvm.Cond) (q1 : Int64) (p2 : Int32) (h0 : Heap) (n0 : Nat) (Z0 : n0 ≤ h0.size) :
    MetFree l x (head1 (Jvm.Cond.code x code maxLocals ret :: ws) room_1) (fun a U => a = #[(.long q1), (.int p2)] ∧ Z.Warmed39 U.vm ∧ U.heap = h0) (fun _ _ _ _ _ => True) (fun _ U o U' => ∃ v L, o = .returned v ∧ Qlaw Z q1 p2 h0 n0 v U'.heap L ∧ FrameEnd U o U' L room_1.cells room_1.slots) := by
  refine MetFree.of_bodySF (plainFor_of_name pn_0) hisR ?_
  intro p e s m args below meth c s₁ Bd hml0 hP hK
  obtain ⟨rfl, hZ, hh⟩ := hP
  have hx := Bd.exec
  have hby := Bd.bytes
  have hml : c.maxLocals = 12 := hml0
  have hown : s.vm.findClass "com/example/keysieve/keysieve/PlacementOfPinLaw" = some m.cls := findClass_of_methodNamed Bd.named
  have hnm := (name_of_methodNamed Bd.named Bd.method).1
  have X0 : Stand p l e room_1 s m #[(.long q1), (.int p2)] below meth c s₁ [] 0 0 := Stand.of_body Bd
  have e0 : s₁.heap = h0 := by rw [← hh, Bd.state]; rfl
  have N0 := Fr.nil n0
  have k0 : ∀ t, Steps p.tables e below (s₁.setTop (mkF m 0 #[.val (.long q1), .second, .val (.int p2), .unset, .unset, .unset, .unset, .unset, .unset, .unset, .unset, .unset] [])) t → Steps p.tables e below (s₁.setTop (entryFrame m #[(.long q1), (.int p2)] maxLocals)) t := fun t k => castTop (ef_law m q1 p2) k
  have k1 : ∀ t, Steps p.tables e below (s₁.setTop (mkF m 12 #[.val (.long q1), .second, .val (.int p2), .val (.long (((q1 &&& (9223372036854775807 : Int64)) - ((q1 &&& (9223372036854775807 : Int64)) / (137438953408 : Int64)) * (137438953408 : Int64)) + (1 : Int64))), .second, .unset, .unset, .unset, .unset, .unset, .unset, .unset] [])) t → Steps p.tables e below (s₁.setTop (entryFrame m #[(.long q1), (.int p2)] maxLocals)) t := fun t k => k0 t (by
    show Steps p.tables e below (s₁.setTop (mkF m 0 #[.val (.long q1), .second, .val (.int p2), .unset, .unset, .unset, .unset, .unset, .unset, .unset, .unset, .unset] [])) _
    refine XS.lloadN X0.here hx rfl (hb hby at_0) rfl ?_
    show Steps p.tables e below (s₁.setTop (mkF m 1 #[.val (.long q1), .second, .val (.int p2), .unset, .unset, .unset, .unset, .unset, .unset, .unset, .unset, .unset] [(.long q1)])) _
    refine X0.ldc2Long hx hown (mvT hZ (hw _ (List.mem_of_getElem? (i := 0) rfl))) (g := (mkF m 1 #[.val (.long q1), .second, .val (.int p2), .unset, .unset, .unset, .unset, .unset, .unset, .unset, .unset, .unset] [(.long q1)])) rfl (hb hby at_1) _ ?_
    show Steps p.tables e below (s₁.setTop (mkF m 4 #[.val (.long q1), .second, .val (.int p2), .unset, .unset, .unset, .unset, .unset, .unset, .unset, .unset, .unset] [(.long (9223372036854775807 : Int64)), (.long q1)])) _
    refine XS.land X0.here hx rfl (hb hby at_4) rfl ?_
    show Steps p.tables e below (s₁.setTop (mkF m 5 #[.val (.long q1), .second, .val (.int p2), .unset, .unset, .unset, .unset, .unset, .unset, .unset, .unset, .unset] [(.long (q1 &&& (9223372036854775807 : Int64)))])) _
    refine X0.ldc2Long hx hown (mvT hZ (hw _ (List.mem_of_getElem? (i := 1) rfl))) (g := (mkF m 5 #[.val (.long q1), .second, .val (.int p2), .unset, .unset, .unset, .unset, .unset, .unset, .unset, .unset, .unset] [(.long (q1 &&& (9223372036854775807 : Int64)))])) rfl (hb hby at_5) _ ?_
    show Steps p.tables e below (s₁.setTop (mkF m 8 #[.val (.long q1), .second, .val (.int p2), .unset, .unset, .unset, .unset, .unset, .unset, .unset, .unset, .unset] [(.long (137438953408 : Int64)), (.long (q1 &&& (9223372036854775807 : Int64)))])) _
    refine XS.lrem X0.here hx rfl (hb hby at_8) rfl (by decide) ?_
    show Steps p.tables e below (s₁.setTop (mkF m 9 #[.val (.long q1), .second, .val (.int p2), .unset, .unset, .unset, .unset, .unset, .unset, .unset, .unset, .unset] [(.long ((q1 &&& (9223372036854775807 : Int64)) - ((q1 &&& (9223372036854775807 : Int64)) / (137438953408 : Int64)) * (137438953408 : Int64)))])) _
    refine XS.lconst X0.here hx rfl (hb hby at_9) ?_
    show Steps p.tables e below (s₁.setTop (mkF m 10 #[.val (.long q1), .second, .val (.int p2), .unset, .unset, .unset, .unset, .unset, .unset, .unset, .unset, .unset] [(.long (1 : Int64)), (.long ((q1 &&& (9223372036854775807 : Int64)) - ((q1 &&& (9223372036854775807 : Int64)) / (137438953408 : Int64)) * (137438953408 : Int64)))])) _
    refine XS.ladd X0.here hx rfl (hb hby at_10) rfl ?_
    show Steps p.tables e below (s₁.setTop (mkF m 11 #[.val (.long q1), .second, .val (.int p2), .unset, .unset, .unset, .unset, .unset, .unset, .unset, .unset, .unset] [(.long (((q1 &&& (9223372036854775807 : Int64)) - ((q1 &&& (9223372036854775807 : Int64)) / (137438953408 : Int64)) * (137438953408 : Int64)) + (1 : Int64)))])) _
    refine XS.lstoreN X0.here hx rfl (hb hby at_11) rfl (l' := #[.val (.long q1), .second, .val (.int p2), .val (.long (((q1 &&& (9223372036854775807 : Int64)) - ((q1 &&& (9223372036854775807 : Int64)) / (137438953408 : Int64)) * (137438953408 : Int64)) + (1 : Int64))), .second, .unset, .unset, .unset, .unset, .unset, .unset, .unset]) rfl ?_
    exact k)
  obtain ⟨bb, hd_bb⟩ : ∃ z : Int64, z = (((q1 &&& (9223372036854775807 : Int64)) - ((q1 &&& (9223372036854775807 : Int64)) / (137438953408 : Int64)) * (137438953408 : Int64)) + (1 : Int64)) := ⟨_, rfl⟩
  have k2 : ∀ t, Steps p.tables e below (s₁.setTop (mkF m 12 #[.val (.long q1), .second, .val (.int p2), .val (.long bb), .second, .unset, .unset, .unset, .unset, .unset, .unset, .unset] [])) t → Steps p.tables e below (s₁.setTop (entryFrame m #[(.long q1), (.int p2)] maxLocals)) t := by rw [hd_bb]; exact k1
  have bb0 : 1 ≤ bb.toInt := by rw [hd_bb]; exact (own_bb q1).1
  have bb1 : bb.toInt ≤ 137438953408 := by rw [hd_bb]; exact (own_bb q1).2
  have k3 : ∀ t, Steps p.tables e below (s₁.setTop (mkF m 25 #[.val (.long q1), .second, .val (.int p2), .val (.long bb), .second, .val (.int (((p2 &&& (255 : Int32)) - ((p2 &&& (255 : Int32)) / (255 : Int32)) * (255 : Int32)) + (1 : Int32))), .unset, .unset, .unset, .unset, .unset, .unset] [])) t → Steps p.tables e below (s₁.setTop (entryFrame m #[(.long q1), (.int p2)] maxLocals)) t := fun t k => k2 t (by
    show Steps p.tables e below (s₁.setTop (mkF m 12 #[.val (.long q1), .second, .val (.int p2), .val (.long bb), .second, .unset, .unset, .unset, .unset, .unset, .unset, .unset] [])) _
    refine XS.iloadN X0.here hx rfl (hb hby at_12) rfl ?_
    show Steps p.tables e below (s₁.setTop (mkF m 13 #[.val (.long q1), .second, .val (.int p2), .val (.long bb), .second, .unset, .unset, .unset, .unset, .unset, .unset, .unset] [(.int p2)])) _
    refine XS.sipush X0.here hx rfl (hb hby at_13) ?_
    show Steps p.tables e below (s₁.setTop (mkF m 16 #[.val (.long q1), .second, .val (.int p2), .val (.long bb), .second, .unset, .unset, .unset, .unset, .unset, .unset, .unset] [(.int (255 : Int32)), (.int p2)])) _
    refine XS.iand X0.here hx rfl (hb hby at_16) rfl ?_
    show Steps p.tables e below (s₁.setTop (mkF m 17 #[.val (.long q1), .second, .val (.int p2), .val (.long bb), .second, .unset, .unset, .unset, .unset, .unset, .unset, .unset] [(.int (p2 &&& (255 : Int32)))])) _
    refine XS.sipush X0.here hx rfl (hb hby at_17) ?_
    show Steps p.tables e below (s₁.setTop (mkF m 20 #[.val (.long q1), .second, .val (.int p2), .val (.long bb), .second, .unset, .unset, .unset, .unset, .unset, .unset, .unset] [(.int (255 : Int32)), (.int (p2 &&& (255 : Int32)))])) _
    refine XS.irem X0.here hx rfl (hb hby at_20) rfl (by decide) ?_
    show Steps p.tables e below (s₁.setTop (mkF m 21 #[.val (.long q1), .second, .val (.int p2), .val (.long bb), .second, .unset, .unset, .unset, .unset, .unset, .unset, .unset] [(.int ((p2 &&& (255 : Int32)) - ((p2 &&& (255 : Int32)) / (255 : Int32)) * (255 : Int32)))])) _
    refine XS.iconst X0.here hx rfl (hb hby at_21) ?_
    show Steps p.tables e below (s₁.setTop (mkF m 22 #[.val (.long q1), .second, .val (.int p2), .val (.long bb), .second, .unset, .unset, .unset, .unset, .unset, .unset, .unset] [(.int (1 : Int32)), (.int ((p2 &&& (255 : Int32)) - ((p2 &&& (255 : Int32)) / (255 : Int32)) * (255 : Int32)))])) _
    refine XS.iadd X0.here hx rfl (hb hby at_22) rfl ?_
    show Steps p.tables e below (s₁.setTop (mkF m 23 #[.val (.long q1), .second, .val (.int p2), .val (.long bb), .second, .unset, .unset, .unset, .unset, .unset, .unset, .unset] [(.int (((p2 &&& (255 : Int32)) - ((p2 &&& (255 : Int32)) / (255 : Int32)) * (255 : Int32)) + (1 : Int32)))])) _
    refine XS.istore X0.here hx rfl (hb hby at_23) rfl (l' := #[.val (.long q1), .second, .val (.int p2), .val (.long bb), .second, .val (.int (((p2 &&& (255 : Int32)) - ((p2 &&& (255 : Int32)) / (255 : Int32)) * (255 : Int32)) + (1 : Int32))), .unset, .unset, .unset, .unset, .unset, .unset]) rfl ?_
    exact k)
  obtain ⟨hh, hd_hh⟩ : ∃ z : Int32, z = (((p2 &&& (255 : Int32)) - ((p2 &&& (255 : Int32)) / (255 : Int32)) * (255 : Int32)) + (1 : Int32)) := ⟨_, rfl⟩
  have k4 : ∀ t, Steps p.tables e below (s₁.setTop (mkF m 25 #[.val (.long q1), .second, .val (.int p2), .val (.long bb), .second, .val (.int hh), .unset, .unset, .unset, .unset, .unset, .unset] [])) t → Steps p.tables e below (s₁.setTop (entryFrame m #[(.long q1), (.int p2)] maxLocals)) t := by rw [hd_hh]; exact k3
  have hh0 : ¬ hh < (1 : Int32) := by rw [hd_hh]; exact (own_hh p2).1
  have hh1 : ¬ (255 : Int32) < hh := by rw [hd_hh]; exact (own_hh p2).2
  obtain ⟨rr, hrr⟩ : ∃ z : Int64, z = (((((bb) + (64 : Int64)) - (1 : Int64)) / (64 : Int64)) * (64 : Int64)) := ⟨_, rfl⟩
  obtain ⟨⟨u1, u2⟩, u3, u4, u5, ⟨u6, u7⟩, u8⟩ := own_law bb rr bb0 bb1 hrr
  obtain ⟨_, _, ⟨T5, L5, kk5, n5⟩, -, X5, ⟨Lc5, hQ5, l5, y5, z5⟩, st5⟩ := Jvm.LawKit.callS X0 hx (y := (⟨"com/example/keysieve/keysieve/Placement", "of", "(JI)Lcom/example/keysieve/keysieve/Placement;"⟩ : MethodName)) hown (mvT hZ (hw _ (List.mem_of_getElem? (i := 2) rfl))) (mvT hZ (hw _ (List.mem_of_getElem? (i := 3) rfl))) (mvT hZ (hw _ (List.mem_of_getElem? (i := 4) rfl))) (mvT hZ (hw _ (List.mem_of_getElem? (i := 5) rfl))) (by decide) (backOf (W := 0) (rm_of l Z a0 hw [] bb hh h0 n0 Z0 u1 u2 hh0 hh1) hZ (hw _ (List.mem_of_getElem? (i := 5) rfl)) (hw _ (List.mem_of_getElem? (i := 4) rfl)) (by decide) (by decide)) (g := (mkF m 28 #[.val (.long q1), .second, .val (.int p2), .val (.long bb), .second, .val (.int hh), .unset, .unset, .unset, .unset, .unset, .unset] [(.int hh), (.long bb)])) rfl (by rw [hml]; rfl) (argsL := [(.long bb), (.int hh)]) (rest := []) (lenOf pd__JI_Lcom_example_keysieve_keysieve_Placement_ rfl) rfl (by show 2 * 0 + _ ≤ _; exact Nat.le_of_eq rfl) (hb hby at_28) (fun _ _ => ⟨rfl, e0, (by decide : 0 + 1 ≤ _), (by decide : 0 + 2 ≤ _)⟩)
  dsimp only [Pt.U, Pt.locs, Pt.cells, Pt.slots] at X5 l5 y5 z5 st5 hQ5
  subst l5 y5 z5
  obtain ⟨rfl, N5q, K1, Eo1, Fo1, Go1⟩ := hQ5
  have N5 := Fr.app N0 N5q
  have k6 : ∀ t, Steps p.tables e below (T5.setTop (mkF m 31 #[.val (.long q1), .second, .val (.int p2), .val (.long bb), .second, .val (.int hh), .unset, .unset, .unset, .unset, .unset, .unset] [(.ref h0.size)])) t → Steps p.tables e below (s₁.setTop (entryFrame m #[(.long q1), (.int p2)] maxLocals)) t := fun t k => k4 t (by
    show Steps p.tables e below (s₁.setTop (mkF m 25 #[.val (.long q1), .second, .val (.int p2), .val (.long bb), .second, .val (.int hh), .unset, .unset, .unset, .unset, .unset, .unset] [])) _
    refine XS.lloadN X0.here hx rfl (hb hby at_25) rfl ?_
    show Steps p.tables e below (s₁.setTop (mkF m 26 #[.val (.long q1), .second, .val (.int p2), .val (.long bb), .second, .val (.int hh), .unset, .unset, .unset, .unset, .unset, .unset] [(.long bb)])) _
    refine XS.iload X0.here hx rfl (hb hby at_26) rfl ?_
    show Steps p.tables e below (s₁.setTop (mkF m 28 #[.val (.long q1), .second, .val (.int p2), .val (.long bb), .second, .val (.int hh), .unset, .unset, .unset, .unset, .unset, .unset] [(.int hh), (.long bb)])) _
    refine st5 _ ?_
    exact k)
  obtain ⟨o1, hd_o1⟩ : ∃ z : Addr, z = h0.size := ⟨_, rfl⟩
  have k7 : ∀ t, Steps p.tables e below (T5.setTop (mkF m 31 #[.val (.long q1), .second, .val (.int p2), .val (.long bb), .second, .val (.int hh), .unset, .unset, .unset, .unset, .unset, .unset] [(.ref o1)])) t → Steps p.tables e below (s₁.setTop (entryFrame m #[(.long q1), (.int p2)] maxLocals)) t := by rw [hd_o1]; exact k6
  have K8 : Keep h0 T5.heap [] := (Keep.refl h0 []).trans K1 all0
  have E9 : Exa Z T5.heap o1 "com/example/keysieve/keysieve/Placement" := by rw [hd_o1]; exact Eo1
  have F10 : Fld Z T5.heap o1 "com/example/keysieve/keysieve/Placement" "bits" "J" (.long rr) := by rw [hd_o1, hrr]; exact Fo1
  have F11 : Fld Z T5.heap o1 "com/example/keysieve/keysieve/Placement" "hashes" "I" (.int hh) := by rw [hd_o1]; exact Go1
  obtain ⟨cq12, kq12, q12a, q12b, q12c⟩ := isOf hZ rfl E9
  obtain ⟨_, _, ⟨T12, L12, kk12, n12⟩, -, X12, ⟨Lc12, hQ12, l12, y12, z12⟩, st12⟩ := X5.virtualBack hx (y := (⟨"com/example/keysieve/keysieve/Placement", "bits", "()J"⟩ : MethodName)) (z := (⟨"com/example/keysieve/keysieve/Placement", "bits", "()J"⟩ : MethodName)) hown (mvT hZ (hw _ (List.mem_of_getElem? (i := 20) rfl))) (mvT hZ (hw _ (List.mem_of_getElem? (i := 21) rfl))) (notFace_of_selects (args := #[]) (mvT hZ (hw _ (List.mem_of_getElem? (i := 23) rfl)))) (mvT hZ (hw _ (List.mem_of_getElem? (i := 23) rfl))) (mvT hZ (hw _ (List.mem_of_getElem? (i := 22) rfl))) (by decide) (backOf (W := 0) (rm_bits l Z a0 hw [] o1 rr T5.heap n0 (Nat.le_trans Z0 K8.1) F10) hZ (hw _ (List.mem_of_getElem? (i := 24) rfl)) (hw _ (List.mem_of_getElem? (i := 4) rfl)) (by decide) (by decide)) q12a q12c (g := (mkF m 35 #[.val (.long q1), .second, .val (.int p2), .val (.long bb), .second, .val (.int hh), .val (.ref o1), .unset, .unset, .unset, .unset, .unset] [(.ref o1)])) rfl (by rw [hml]; rfl) (Steps.refl _) (argsL := []) (rest := []) (lenOf pd___J rfl) rfl (by show 2 * 0 + _ ≤ _; exact Nat.le_of_eq rfl) (hb hby at_35) (fun _ _ => ⟨rfl, rfl, (by decide : 1 + 0 ≤ _), (by decide : 2 + 0 ≤ _)⟩)
  dsimp only [Pt.U, Pt.locs, Pt.cells, Pt.slots] at X12 l12 y12 z12 st12 hQ12
  subst l12 y12 z12
  obtain ⟨rfl, N12q, q1a⟩ := hQ12
  have N12 := Fr.app N5 N12q
  obtain ⟨cq13, kq13, q13a, q13b, q13c⟩ := isOf hZ q1a E9
  obtain ⟨_, _, ⟨T13, L13, kk13, n13⟩, -, X13, ⟨Lc13, hQ13, l13, y13, z13⟩, st13⟩ := X12.virtualBack hx (y := (⟨"com/example/keysieve/keysieve/Placement", "hashes", "()I"⟩ : MethodName)) (z := (⟨"com/example/keysieve/keysieve/Placement", "hashes", "()I"⟩ : MethodName)) hown (mvT hZ (hw _ (List.mem_of_getElem? (i := 26) rfl))) (mvT hZ (hw _ (List.mem_of_getElem? (i := 27) rfl))) (notFace_of_selects (args := #[]) (mvT hZ (hw _ (List.mem_of_getElem? (i := 29) rfl)))) (mvT hZ (hw _ (List.mem_of_getElem? (i := 29) rfl))) (mvT hZ (hw _ (List.mem_of_getElem? (i := 28) rfl))) (by decide) (backOf (W := 0) (rm_hashes l Z a0 hw [] o1 hh T5.heap n0 (Nat.le_trans Z0 K8.1) F11) hZ (hw _ (List.mem_of_getElem? (i := 30) rfl)) (hw _ (List.mem_of_getElem? (i := 4) rfl)) (by decide) (by decide)) q13a q13c (g := (mkF m 78 #[.val (.long q1), .second, .val (.int p2), .val (.long bb), .second, .val (.int hh), .val (.ref o1), .val (.long rr), .second, .val (.int (1 : Int32)), .unset, .unset] [(.ref o1)])) rfl (by rw [hml]; rfl) (Steps.refl _) (argsL := []) (rest := []) (lenOf pd___I rfl) rfl (by show 2 * 0 + _ ≤ _; exact Nat.le_of_eq rfl) (hb hby at_78) (fun _ _ => ⟨rfl, q1a, (by decide : 1 + 0 ≤ _), (by decide : 2 + 0 ≤ _)⟩)
  dsimp only [Pt.U, Pt.locs, Pt.cells, Pt.slots] at X13 l13 y13 z13 st13 hQ13
  subst l13 y13 z13
  obtain ⟨rfl, N13q, q1b⟩ := hQ13
  have N13 := Fr.app N12 N13q
  obtain ⟨_, _, ⟨T14, L14, kk14, n14⟩, -, X14, ⟨Lc14, hQ14, l14, y14, z14⟩, st14⟩ := Jvm.LawKit.callS X13 hx (y := (⟨"com/example/keysieve/keysieve/Placement", "of", "(JI)Lcom/example/keysieve/keysieve/Placement;"⟩ : MethodName)) hown (mvT hZ (hw _ (List.mem_of_getElem? (i := 2) rfl))) (mvT hZ (hw _ (List.mem_of_getElem? (i := 3) rfl))) (mvT hZ (hw _ (List.mem_of_getElem? (i := 4) rfl))) (mvT hZ (hw _ (List.mem_of_getElem? (i := 5) rfl))) (by decide) (backOf (W := 0) (rm_of l Z a0 hw [] rr hh T5.heap n0 (Nat.le_trans Z0 K8.1) u6 u7 hh0 hh1) hZ (hw _ (List.mem_of_getElem? (i := 5) rfl)) (hw _ (List.mem_of_getElem? (i := 4) rfl)) (by decide) (by decide)) (g := (mkF m 109 #[.val (.long q1), .second, .val (.int p2), .val (.long bb), .second, .val (.int hh), .val (.ref o1), .val (.long rr), .second, .val (.int (1 : Int32)), .val (.int (1 : Int32)), .unset] [(.int hh), (.long rr)])) rfl (by rw [hml]; rfl) (argsL := [(.long rr), (.int hh)]) (rest := []) (lenOf pd__JI_Lcom_example_keysieve_keysieve_Placement_ rfl) rfl (by show 2 * 0 + _ ≤ _; exact Nat.le_of_eq rfl) (hb hby at_109) (fun _ _ => ⟨rfl, q1b, (by decide : 1 + 1 ≤ _), (by decide : 2 + 2 ≤ _)⟩)
  dsimp only [Pt.U, Pt.locs, Pt.cells, Pt.slots] at X14 l14 y14 z14 st14 hQ14
  subst l14 y14 z14
  obtain ⟨rfl, N14q, K2, Eo2, Fo2, Go2⟩ := hQ14
  have N14 := Fr.app N13 N14q
  have k15 : ∀ t, Steps p.tables e below (T14.setTop (mkF m 112 #[.val (.long q1), .second, .val (.int p2), .val (.long bb), .second, .val (.int hh), .val (.ref o1), .val (.long rr), .second, .val (.int (1 : Int32)), .val (.int (1 : Int32)), .unset] [(.ref T5.heap.size)])) t → Steps p.tables e below (s₁.setTop (entryFrame m #[(.long q1), (.int p2)] maxLocals)) t := fun t k => k7 t (by
    show Steps p.tables e below (T5.setTop (mkF m 31 #[.val (.long q1), .second, .val (.int p2), .val (.long bb), .second, .val (.int hh), .unset, .unset, .unset, .unset, .unset, .unset] [(.ref o1)])) _
    refine XS.astore X5.here hx rfl (hb hby at_31) rfl rfl (l' := #[.val (.long q1), .second, .val (.int p2), .val (.long bb), .second, .val (.int hh), .val (.ref o1), .unset, .unset, .unset, .unset, .unset]) rfl ?_
    show Steps p.tables e below (T5.setTop (mkF m 33 #[.val (.long q1), .second, .val (.int p2), .val (.long bb), .second, .val (.int hh), .val (.ref o1), .unset, .unset, .unset, .unset, .unset] [])) _
    refine XS.aload X5.here hx rfl (hb hby at_33) rfl rfl ?_
    show Steps p.tables e below (T5.setTop (mkF m 35 #[.val (.long q1), .second, .val (.int p2), .val (.long bb), .second, .val (.int hh), .val (.ref o1), .unset, .unset, .unset, .unset, .unset] [(.ref o1)])) _
    refine st12.trans ?_
    show Steps p.tables e below (T12.setTop (mkF m 38 #[.val (.long q1), .second, .val (.int p2), .val (.long bb), .second, .val (.int hh), .val (.ref o1), .unset, .unset, .unset, .unset, .unset] [(.long rr)])) _
    refine XS.lstore X12.here hx rfl (hb hby at_38) rfl (l' := #[.val (.long q1), .second, .val (.int p2), .val (.long bb), .second, .val (.int hh), .val (.ref o1), .val (.long rr), .second, .unset, .unset, .unset]) rfl ?_
    show Steps p.tables e below (T12.setTop (mkF m 40 #[.val (.long q1), .second, .val (.int p2), .val (.long bb), .second, .val (.int hh), .val (.ref o1), .val (.long rr), .second, .unset, .unset, .unset] [])) _
    refine XS.lload X12.here hx rfl (hb hby at_40) rfl ?_
    show Steps p.tables e below (T12.setTop (mkF m 42 #[.val (.long q1), .second, .val (.int p2), .val (.long bb), .second, .val (.int hh), .val (.ref o1), .val (.long rr), .second, .unset, .unset, .unset] [(.long rr)])) _
    refine X12.ldc2Long hx hown (mvT hZ (hw _ (List.mem_of_getElem? (i := 25) rfl))) (g := (mkF m 42 #[.val (.long q1), .second, .val (.int p2), .val (.long bb), .second, .val (.int hh), .val (.ref o1), .val (.long rr), .second, .unset, .unset, .unset] [(.long rr)])) rfl (hb hby at_42) _ ?_
    show Steps p.tables e below (T12.setTop (mkF m 45 #[.val (.long q1), .second, .val (.int p2), .val (.long bb), .second, .val (.int hh), .val (.ref o1), .val (.long rr), .second, .unset, .unset, .unset] [(.long (64 : Int64)), (.long rr)])) _
    refine XS.lrem X12.here hx rfl (hb hby at_45) rfl (by decide) ?_
    show Steps p.tables e below (T12.setTop (mkF m 46 #[.val (.long q1), .second, .val (.int p2), .val (.long bb), .second, .val (.int hh), .val (.ref o1), .val (.long rr), .second, .unset, .unset, .unset] [(.long (rr - (rr / (64 : Int64)) * (64 : Int64)))])) _
    refine XS.lconst X12.here hx rfl (hb hby at_46) ?_
    show Steps p.tables e below (T12.setTop (mkF m 47 #[.val (.long q1), .second, .val (.int p2), .val (.long bb), .second, .val (.int hh), .val (.ref o1), .val (.long rr), .second, .unset, .unset, .unset] [(.long (0 : Int64)), (.long (rr - (rr / (64 : Int64)) * (64 : Int64)))])) _
    refine XS.lcmp X12.here hx rfl (hb hby at_47) rfl ?_
    show Steps p.tables e below (T12.setTop (mkF m 48 #[.val (.long q1), .second, .val (.int p2), .val (.long bb), .second, .val (.int hh), .val (.ref o1), .val (.long rr), .second, .unset, .unset, .unset] [(.int (lcmpW (rr - (rr / (64 : Int64)) * (64 : Int64)) (0 : Int64)))])) _
    refine XS.ifNo X12.here hx rfl (hb hby at_48) rfl ((if0 _ _).trans (teq ((lw_eq (rr - (rr / (64 : Int64)) * (64 : Int64)) (0 : Int64)).mpr u3)).2) ?_
    show Steps p.tables e below (T12.setTop (mkF m 51 #[.val (.long q1), .second, .val (.int p2), .val (.long bb), .second, .val (.int hh), .val (.ref o1), .val (.long rr), .second, .unset, .unset, .unset] [])) _
    refine XS.lloadN X12.here hx rfl (hb hby at_51) rfl ?_
    show Steps p.tables e below (T12.setTop (mkF m 52 #[.val (.long q1), .second, .val (.int p2), .val (.long bb), .second, .val (.int hh), .val (.ref o1), .val (.long rr), .second, .unset, .unset, .unset] [(.long bb)])) _
    refine XS.lload X12.here hx rfl (hb hby at_52) rfl ?_
    show Steps p.tables e below (T12.setTop (mkF m 54 #[.val (.long q1), .second, .val (.int p2), .val (.long bb), .second, .val (.int hh), .val (.ref o1), .val (.long rr), .second, .unset, .unset, .unset] [(.long rr), (.long bb)])) _
    refine XS.lcmp X12.here hx rfl (hb hby at_54) rfl ?_
    show Steps p.tables e below (T12.setTop (mkF m 55 #[.val (.long q1), .second, .val (.int p2), .val (.long bb), .second, .val (.int hh), .val (.ref o1), .val (.long rr), .second, .unset, .unset, .unset] [(.int (lcmpW bb rr))])) _
    refine XS.ifNo X12.here hx rfl (hb hby at_55) rfl ((if0 _ _).trans (flt (fun q => u4 ((lw_gt bb rr).mp q))).2.2.1) ?_
    show Steps p.tables e below (T12.setTop (mkF m 58 #[.val (.long q1), .second, .val (.int p2), .val (.long bb), .second, .val (.int hh), .val (.ref o1), .val (.long rr), .second, .unset, .unset, .unset] [])) _
    refine XS.lload X12.here hx rfl (hb hby at_58) rfl ?_
    show Steps p.tables e below (T12.setTop (mkF m 60 #[.val (.long q1), .second, .val (.int p2), .val (.long bb), .second, .val (.int hh), .val (.ref o1), .val (.long rr), .second, .unset, .unset, .unset] [(.long rr)])) _
    refine XS.lloadN X12.here hx rfl (hb hby at_60) rfl ?_
    show Steps p.tables e below (T12.setTop (mkF m 61 #[.val (.long q1), .second, .val (.int p2), .val (.long bb), .second, .val (.int hh), .val (.ref o1), .val (.long rr), .second, .unset, .unset, .unset] [(.long bb), (.long rr)])) _
    refine XS.lsub X12.here hx rfl (hb hby at_61) rfl ?_
    show Steps p.tables e below (T12.setTop (mkF m 62 #[.val (.long q1), .second, .val (.int p2), .val (.long bb), .second, .val (.int hh), .val (.ref o1), .val (.long rr), .second, .unset, .unset, .unset] [(.long (rr - bb))])) _
    refine X12.ldc2Long hx hown (mvT hZ (hw _ (List.mem_of_getElem? (i := 25) rfl))) (g := (mkF m 62 #[.val (.long q1), .second, .val (.int p2), .val (.long bb), .second, .val (.int hh), .val (.ref o1), .val (.long rr), .second, .unset, .unset, .unset] [(.long (rr - bb))])) rfl (hb hby at_62) _ ?_
    show Steps p.tables e below (T12.setTop (mkF m 65 #[.val (.long q1), .second, .val (.int p2), .val (.long bb), .second, .val (.int hh), .val (.ref o1), .val (.long rr), .second, .unset, .unset, .unset] [(.long (64 : Int64)), (.long (rr - bb))])) _
    refine XS.lcmp X12.here hx rfl (hb hby at_65) rfl ?_
    show Steps p.tables e below (T12.setTop (mkF m 66 #[.val (.long q1), .second, .val (.int p2), .val (.long bb), .second, .val (.int hh), .val (.ref o1), .val (.long rr), .second, .unset, .unset, .unset] [(.int (lcmpW (rr - bb) (64 : Int64)))])) _
    refine XS.ifNo X12.here hx rfl (hb hby at_66) rfl ((if0 _ _).trans (tlt ((lw_lt (rr - bb) (64 : Int64)).mpr u5)).2.1) ?_
    show Steps p.tables e below (T12.setTop (mkF m 69 #[.val (.long q1), .second, .val (.int p2), .val (.long bb), .second, .val (.int hh), .val (.ref o1), .val (.long rr), .second, .unset, .unset, .unset] [])) _
    refine XS.iconst X12.here hx rfl (hb hby at_69) ?_
    show Steps p.tables e below (T12.setTop (mkF m 70 #[.val (.long q1), .second, .val (.int p2), .val (.long bb), .second, .val (.int hh), .val (.ref o1), .val (.long rr), .second, .unset, .unset, .unset] [(.int (1 : Int32))])) _
    refine XS.goto X12.here hx rfl (pc0 := 70) (pc' := 74) rfl (hb hby at_70) (by decide) (by decide) ?_
    show Steps p.tables e below (T12.setTop (mkF m 74 #[.val (.long q1), .second, .val (.int p2), .val (.long bb), .second, .val (.int hh), .val (.ref o1), .val (.long rr), .second, .unset, .unset, .unset] [(.int (1 : Int32))])) _
    refine XS.istore X12.here hx rfl (hb hby at_74) rfl (l' := #[.val (.long q1), .second, .val (.int p2), .val (.long bb), .second, .val (.int hh), .val (.ref o1), .val (.long rr), .second, .val (.int (1 : Int32)), .unset, .unset]) rfl ?_
    show Steps p.tables e below (T12.setTop (mkF m 76 #[.val (.long q1), .second, .val (.int p2), .val (.long bb), .second, .val (.int hh), .val (.ref o1), .val (.long rr), .second, .val (.int (1 : Int32)), .unset, .unset] [])) _
    refine XS.aload X12.here hx rfl (hb hby at_76) rfl rfl ?_
    show Steps p.tables e below (T12.setTop (mkF m 78 #[.val (.long q1), .second, .val (.int p2), .val (.long bb), .second, .val (.int hh), .val (.ref o1), .val (.long rr), .second, .val (.int (1 : Int32)), .unset, .unset] [(.ref o1)])) _
    refine st13.trans ?_
    show Steps p.tables e below (T13.setTop (mkF m 81 #[.val (.long q1), .second, .val (.int p2), .val (.long bb), .second, .val (.int hh), .val (.ref o1), .val (.long rr), .second, .val (.int (1 : Int32)), .unset, .unset] [(.int hh)])) _
    refine XS.iload X13.here hx rfl (hb hby at_81) rfl ?_
    show Steps p.tables e below (T13.setTop (mkF m 83 #[.val (.long q1), .second, .val (.int p2), .val (.long bb), .second, .val (.int hh), .val (.ref o1), .val (.long rr), .second, .val (.int (1 : Int32)), .unset, .unset] [(.int hh), (.int hh)])) _
    refine XS.icmpNo X13.here hx rfl (hb hby at_83) rfl (teq (rfl : hh = hh)).2 ?_
    show Steps p.tables e below (T13.setTop (mkF m 86 #[.val (.long q1), .second, .val (.int p2), .val (.long bb), .second, .val (.int hh), .val (.ref o1), .val (.long rr), .second, .val (.int (1 : Int32)), .unset, .unset] [])) _
    refine XS.iconst X13.here hx rfl (hb hby at_86) ?_
    show Steps p.tables e below (T13.setTop (mkF m 87 #[.val (.long q1), .second, .val (.int p2), .val (.long bb), .second, .val (.int hh), .val (.ref o1), .val (.long rr), .second, .val (.int (1 : Int32)), .unset, .unset] [(.int (1 : Int32))])) _
    refine XS.goto X13.here hx rfl (pc0 := 87) (pc' := 91) rfl (hb hby at_87) (by decide) (by decide) ?_
    show Steps p.tables e below (T13.setTop (mkF m 91 #[.val (.long q1), .second, .val (.int p2), .val (.long bb), .second, .val (.int hh), .val (.ref o1), .val (.long rr), .second, .val (.int (1 : Int32)), .unset, .unset] [(.int (1 : Int32))])) _
    refine XS.istore X13.here hx rfl (hb hby at_91) rfl (l' := #[.val (.long q1), .second, .val (.int p2), .val (.long bb), .second, .val (.int hh), .val (.ref o1), .val (.long rr), .second, .val (.int (1 : Int32)), .val (.int (1 : Int32)), .unset]) rfl ?_
    show Steps p.tables e below (T13.setTop (mkF m 93 #[.val (.long q1), .second, .val (.int p2), .val (.long bb), .second, .val (.int hh), .val (.ref o1), .val (.long rr), .second, .val (.int (1 : Int32)), .val (.int (1 : Int32)), .unset] [])) _
    refine XS.iload X13.here hx rfl (hb hby at_93) rfl ?_
    show Steps p.tables e below (T13.setTop (mkF m 95 #[.val (.long q1), .second, .val (.int p2), .val (.long bb), .second, .val (.int hh), .val (.ref o1), .val (.long rr), .second, .val (.int (1 : Int32)), .val (.int (1 : Int32)), .unset] [(.int (1 : Int32))])) _
    refine XS.ifNo X13.here hx rfl (hb hby at_95) rfl ((if0 _ _).trans (feq (by decide)).1) ?_
    show Steps p.tables e below (T13.setTop (mkF m 98 #[.val (.long q1), .second, .val (.int p2), .val (.long bb), .second, .val (.int hh), .val (.ref o1), .val (.long rr), .second, .val (.int (1 : Int32)), .val (.int (1 : Int32)), .unset] [])) _
    refine XS.iload X13.here hx rfl (hb hby at_98) rfl ?_
    show Steps p.tables e below (T13.setTop (mkF m 100 #[.val (.long q1), .second, .val (.int p2), .val (.long bb), .second, .val (.int hh), .val (.ref o1), .val (.long rr), .second, .val (.int (1 : Int32)), .val (.int (1 : Int32)), .unset] [(.int (1 : Int32))])) _
    refine XS.ifYes X13.here hx rfl (pc0 := 100) (pc' := 105) rfl (hb hby at_100) rfl ((if0 _ _).trans (feq (by decide)).2) (by decide) (by decide) ?_
    show Steps p.tables e below (T13.setTop (mkF m 105 #[.val (.long q1), .second, .val (.int p2), .val (.long bb), .second, .val (.int hh), .val (.ref o1), .val (.long rr), .second, .val (.int (1 : Int32)), .val (.int (1 : Int32)), .unset] [])) _
    refine XS.lload X13.here hx rfl (hb hby at_105) rfl ?_
    show Steps p.tables e below (T13.setTop (mkF m 107 #[.val (.long q1), .second, .val (.int p2), .val (.long bb), .second, .val (.int hh), .val (.ref o1), .val (.long rr), .second, .val (.int (1 : Int32)), .val (.int (1 : Int32)), .unset] [(.long rr)])) _
    refine XS.iload X13.here hx rfl (hb hby at_107) rfl ?_
    show Steps p.tables e below (T13.setTop (mkF m 109 #[.val (.long q1), .second, .val (.int p2), .val (.long bb), .second, .val (.int hh), .val (.ref o1), .val (.long rr), .second, .val (.int (1 : Int32)), .val (.int (1 : Int32)), .unset] [(.int hh), (.long rr)])) _
    refine st14 _ ?_
    exact k)
  obtain ⟨o2, hd_o2⟩ : ∃ z : Addr, z = T5.heap.size := ⟨_, rfl⟩
  have k16 : ∀ t, Steps p.tables e below (T14.setTop (mkF m 112 #[.val (.long q1), .second, .val (.int p2), .val (.long bb), .second, .val (.int hh), .val (.ref o1), .val (.long rr), .second, .val (.int (1 : Int32)), .val (.int (1 : Int32)), .unset] [(.ref o2)])) t → Steps p.tables e below (s₁.setTop (entryFrame m #[(.long q1), (.int p2)] maxLocals)) t := by rw [hd_o2]; exact k15
  have K17 : Keep h0 T14.heap [] := K8.trans K2 all0
  have E18 : Exa Z T14.heap o2 "com/example/keysieve/keysieve/Placement" := by rw [hd_o2]; exact Eo2
  have F19 : Fld Z T14.heap o2 "com/example/keysieve/keysieve/Placement" "bits" "J" (.long rr) := by rw [hd_o2]; rw [u8] at Fo2; exact Fo2
  have F20 : Fld Z T14.heap o2 "com/example/keysieve/keysieve/Placement" "hashes" "I" (.int hh) := by rw [hd_o2]; exact Go2
  obtain ⟨cq21, kq21, q21a, q21b, q21c⟩ := isOf hZ rfl E18
  obtain ⟨_, _, ⟨T21, L21, kk21, n21⟩, -, X21, ⟨Lc21, hQ21, l21, y21, z21⟩, st21⟩ := X14.virtualBack hx (y := (⟨"com/example/keysieve/keysieve/Placement", "bits", "()J"⟩ : MethodName)) (z := (⟨"com/example/keysieve/keysieve/Placement", "bits", "()J"⟩ : MethodName)) hown (mvT hZ (hw _ (List.mem_of_getElem? (i := 20) rfl))) (mvT hZ (hw _ (List.mem_of_getElem? (i := 21) rfl))) (notFace_of_selects (args := #[]) (mvT hZ (hw _ (List.mem_of_getElem? (i := 23) rfl)))) (mvT hZ (hw _ (List.mem_of_getElem? (i := 23) rfl))) (mvT hZ (hw _ (List.mem_of_getElem? (i := 22) rfl))) (by decide) (backOf (W := 0) (rm_bits l Z a0 hw [] o2 rr T14.heap n0 (Nat.le_trans Z0 K17.1) F19) hZ (hw _ (List.mem_of_getElem? (i := 24) rfl)) (hw _ (List.mem_of_getElem? (i := 4) rfl)) (by decide) (by decide)) q21a q21c (g := (mkF m 116 #[.val (.long q1), .second, .val (.int p2), .val (.long bb), .second, .val (.int hh), .val (.ref o1), .val (.long rr), .second, .val (.int (1 : Int32)), .val (.int (1 : Int32)), .val (.ref o2)] [(.ref o2)])) rfl (by rw [hml]; rfl) (Steps.refl _) (argsL := []) (rest := []) (lenOf pd___J rfl) rfl (by show 2 * 0 + _ ≤ _; exact Nat.le_of_eq rfl) (hb hby at_116) (fun _ _ => ⟨rfl, rfl, (by decide : 2 + 0 ≤ _), (by decide : 4 + 0 ≤ _)⟩)
  dsimp only [Pt.U, Pt.locs, Pt.cells, Pt.slots] at X21 l21 y21 z21 st21 hQ21
  subst l21 y21 z21
  obtain ⟨rfl, N21q, q2a⟩ := hQ21
  have N21 := Fr.app N14 N21q
  obtain ⟨cq22, kq22, q22a, q22b, q22c⟩ := isOf hZ q2a E18
  obtain ⟨_, _, ⟨T22, L22, kk22, n22⟩, -, X22, ⟨Lc22, hQ22, l22, y22, z22⟩, st22⟩ := X21.virtualBack hx (y := (⟨"com/example/keysieve/keysieve/Placement", "hashes", "()I"⟩ : MethodName)) (z := (⟨"com/example/keysieve/keysieve/Placement", "hashes", "()I"⟩ : MethodName)) hown (mvT hZ (hw _ (List.mem_of_getElem? (i := 26) rfl))) (mvT hZ (hw _ (List.mem_of_getElem? (i := 27) rfl))) (notFace_of_selects (args := #[]) (mvT hZ (hw _ (List.mem_of_getElem? (i := 29) rfl)))) (mvT hZ (hw _ (List.mem_of_getElem? (i := 29) rfl))) (mvT hZ (hw _ (List.mem_of_getElem? (i := 28) rfl))) (by decide) (backOf (W := 0) (rm_hashes l Z a0 hw [] o2 hh T14.heap n0 (Nat.le_trans Z0 K17.1) F20) hZ (hw _ (List.mem_of_getElem? (i := 30) rfl)) (hw _ (List.mem_of_getElem? (i := 4) rfl)) (by decide) (by decide)) q22a q22c (g := (mkF m 127 #[.val (.long q1), .second, .val (.int p2), .val (.long bb), .second, .val (.int hh), .val (.ref o1), .val (.long rr), .second, .val (.int (1 : Int32)), .val (.int (1 : Int32)), .val (.ref o2)] [(.ref o2)])) rfl (by rw [hml]; rfl) (Steps.refl _) (argsL := []) (rest := []) (lenOf pd___I rfl) rfl (by show 2 * 0 + _ ≤ _; exact Nat.le_of_eq rfl) (hb hby at_127) (fun _ _ => ⟨rfl, q2a, (by decide : 2 + 0 ≤ _), (by decide : 4 + 0 ≤ _)⟩)
  dsimp only [Pt.U, Pt.locs, Pt.cells, Pt.slots] at X22 l22 y22 z22 st22 hQ22
  subst l22 y22 z22
  obtain ⟨rfl, N22q, q2b⟩ := hQ22
  have N22 := Fr.app N21 N22q
  have k24 : ∀ t, Steps p.tables e below (T22.setTop (mkF m 140 #[.val (.long q1), .second, .val (.int p2), .val (.long bb), .second, .val (.int hh), .val (.ref o1), .val (.long rr), .second, .val (.int (1 : Int32)), .val (.int (1 : Int32)), .val (.ref o2)] [(.int (1 : Int32))])) t → Steps p.tables e below (s₁.setTop (entryFrame m #[(.long q1), (.int p2)] maxLocals)) t := fun t k => k16 t (by
    show Steps p.tables e below (T14.setTop (mkF m 112 #[.val (.long q1), .second, .val (.int p2), .val (.long bb), .second, .val (.int hh), .val (.ref o1), .val (.long rr), .second, .val (.int (1 : Int32)), .val (.int (1 : Int32)), .unset] [(.ref o2)])) _
    refine XS.astore X14.here hx rfl (hb hby at_112) rfl rfl (l' := #[.val (.long q1), .second, .val (.int p2), .val (.long bb), .second, .val (.int hh), .val (.ref o1), .val (.long rr), .second, .val (.int (1 : Int32)), .val (.int (1 : Int32)), .val (.ref o2)]) rfl ?_
    show Steps p.tables e below (T14.setTop (mkF m 114 #[.val (.long q1), .second, .val (.int p2), .val (.long bb), .second, .val (.int hh), .val (.ref o1), .val (.long rr), .second, .val (.int (1 : Int32)), .val (.int (1 : Int32)), .val (.ref o2)] [])) _
    refine XS.aload X14.here hx rfl (hb hby at_114) rfl rfl ?_
    show Steps p.tables e below (T14.setTop (mkF m 116 #[.val (.long q1), .second, .val (.int p2), .val (.long bb), .second, .val (.int hh), .val (.ref o1), .val (.long rr), .second, .val (.int (1 : Int32)), .val (.int (1 : Int32)), .val (.ref o2)] [(.ref o2)])) _
    refine st21.trans ?_
    show Steps p.tables e below (T21.setTop (mkF m 119 #[.val (.long q1), .second, .val (.int p2), .val (.long bb), .second, .val (.int hh), .val (.ref o1), .val (.long rr), .second, .val (.int (1 : Int32)), .val (.int (1 : Int32)), .val (.ref o2)] [(.long rr)])) _
    refine XS.lload X21.here hx rfl (hb hby at_119) rfl ?_
    show Steps p.tables e below (T21.setTop (mkF m 121 #[.val (.long q1), .second, .val (.int p2), .val (.long bb), .second, .val (.int hh), .val (.ref o1), .val (.long rr), .second, .val (.int (1 : Int32)), .val (.int (1 : Int32)), .val (.ref o2)] [(.long rr), (.long rr)])) _
    refine XS.lcmp X21.here hx rfl (hb hby at_121) rfl ?_
    show Steps p.tables e below (T21.setTop (mkF m 122 #[.val (.long q1), .second, .val (.int p2), .val (.long bb), .second, .val (.int hh), .val (.ref o1), .val (.long rr), .second, .val (.int (1 : Int32)), .val (.int (1 : Int32)), .val (.ref o2)] [(.int (lcmpW rr rr))])) _
    refine XS.ifNo X21.here hx rfl (hb hby at_122) rfl ((if0 _ _).trans (teq ((lw_eq rr rr).mpr (rfl : rr = rr))).2) ?_
    show Steps p.tables e below (T21.setTop (mkF m 125 #[.val (.long q1), .second, .val (.int p2), .val (.long bb), .second, .val (.int hh), .val (.ref o1), .val (.long rr), .second, .val (.int (1 : Int32)), .val (.int (1 : Int32)), .val (.ref o2)] [])) _
    refine XS.aload X21.here hx rfl (hb hby at_125) rfl rfl ?_
    show Steps p.tables e below (T21.setTop (mkF m 127 #[.val (.long q1), .second, .val (.int p2), .val (.long bb), .second, .val (.int hh), .val (.ref o1), .val (.long rr), .second, .val (.int (1 : Int32)), .val (.int (1 : Int32)), .val (.ref o2)] [(.ref o2)])) _
    refine st22.trans ?_
    show Steps p.tables e below (T22.setTop (mkF m 130 #[.val (.long q1), .second, .val (.int p2), .val (.long bb), .second, .val (.int hh), .val (.ref o1), .val (.long rr), .second, .val (.int (1 : Int32)), .val (.int (1 : Int32)), .val (.ref o2)] [(.int hh)])) _
    refine XS.iload X22.here hx rfl (hb hby at_130) rfl ?_
    show Steps p.tables e below (T22.setTop (mkF m 132 #[.val (.long q1), .second, .val (.int p2), .val (.long bb), .second, .val (.int hh), .val (.ref o1), .val (.long rr), .second, .val (.int (1 : Int32)), .val (.int (1 : Int32)), .val (.ref o2)] [(.int hh), (.int hh)])) _
    refine XS.icmpNo X22.here hx rfl (hb hby at_132) rfl (teq (rfl : hh = hh)).2 ?_
    show Steps p.tables e below (T22.setTop (mkF m 135 #[.val (.long q1), .second, .val (.int p2), .val (.long bb), .second, .val (.int hh), .val (.ref o1), .val (.long rr), .second, .val (.int (1 : Int32)), .val (.int (1 : Int32)), .val (.ref o2)] [])) _
    refine XS.iconst X22.here hx rfl (hb hby at_135) ?_
    show Steps p.tables e below (T22.setTop (mkF m 136 #[.val (.long q1), .second, .val (.int p2), .val (.long bb), .second, .val (.int hh), .val (.ref o1), .val (.long rr), .second, .val (.int (1 : Int32)), .val (.int (1 : Int32)), .val (.ref o2)] [(.int (1 : Int32))])) _
    refine XS.goto X22.here hx rfl (pc0 := 136) (pc' := 140) rfl (hb hby at_136) (by decide) (by decide) ?_
    exact k)
  obtain ⟨fs, hr, hrun, hended, hW, hsame⟩ := X22.leave (v := some (.int (1 : Int32))) (fun h => by rw [Bd.returns] at h; cases h)
  refine ⟨_, _, k24 _ ?_, hrun, hended, _, _, rfl, ?_, ⟨_, rfl⟩, hW, hsame.mono (by decide) (by decide)⟩
  · show Steps p.tables e below (T22.setTop (mkF m 140 #[.val (.long q1), .second, .val (.int p2), .val (.long bb), .second, .val (.int hh), .val (.ref o1), .val (.long rr), .second, .val (.int (1 : Int32)), .val (.int (1 : Int32)), .val (.ref o2)] [(.int (1 : Int32))])) _
    exact retN X22 hx (t := .boolean) Bd.returns (by simp) (hb hby at_140) hr
  ·
    show Qlaw _ q1 p2 h0 n0 _ T22.heap _
    rw [q2b]
    exact ⟨rfl, N22⟩
set_option maxRecDepth 65536 in
set_option maxHeartbeats 40000000 in
theorem comes_1 {Post : Tables → Env → Array Value → State → Outcome → State → Prop} (hpost : ∀ tb e args s v u, (limb_1_1.after args s (.returned v) u = true ∧ limb_1_2.after args s (.returned v) u = true ∧ True) → FrameEnd s (.returned v) u (Jvm.fieldLocs frame_1_writes args s ++ Jvm.arrayLocs frame_1_arrays args s ++ Jvm.staticLocs frame_1_statics s) 16 128 → Post tb e args s (.returned v) u) :
    ArmFor flags0 classFile x code maxLocals ret World_1 tables_1 room_1 Calls_1 rest_1 Pre_1 Post := by
  intro l hfl _ _ p e ha hc hk s m args below hf hA hF happ hP
  obtain ⟨hcalls, hrest, hpre⟩ := hP
  obtain ⟨-, -, -, hnamed, -, -, -, hat⟩ := (Spec.applies_iff hf).mp happ
  obtain ⟨hg, hn⟩ := and_e (Cond.before_iff.mp (show (Jvm.Cond.and given_1 narrow_1).before args s = true from hpre))
  obtain ⟨g1, g2⟩ := and_e hg
  obtain ⟨g3, g4⟩ := and_e g2
  obtain ⟨w0, w1, rfl⟩ : ∃ w0 w1 : Value, args = #[w0, w1] := by
    have hs : args.size = 2 := by simpa [Cond.value, given_1] using g1
    obtain ⟨L⟩ := args
    match L, hs with
    | [w0, w1], _ => exact ⟨w0, w1, rfl⟩
  have hw := fun d (hd : d ∈ tables_1) => atoms_spec (ws := Jvm.Cond.code x code maxLocals ret :: tables_1) hat d (List.mem_cons_of_mem _ hd)
  have hfit : Fit s := fun {y c} hc i hi => by
    obtain ⟨ha, rfl⟩ := Array.getElem?_eq_some_iff.mp hc
    have q := List.all_eq_true.mp ((Array.all_eq_true_iff_forall_mem.mp hF) _ (Array.getElem_mem ha)) i (List.mem_range.mpr hi)
    simpa [Array.getElem?_eq_getElem hi] using q
  obtain ⟨i0, ei0⟩ := isL_v g3
  obtain rfl : w0 = (.long i0) := Option.some.inj ei0
  obtain ⟨i1, ei1⟩ := is_v g4
  obtain rfl : w1 = (.int i1) := Option.some.inj ei1
  obtain ⟨n, o, h1, h2, h3, _, L, rfl, ⟨rfl, N⟩, hq⟩ := rm_law l s _ hw tables_1 i0 i1  s.heap s.heap.size (Nat.le_refl _)  p e ha hc hk s m _ below hf ((Spec.applies_iff_loose hf).mp happ).1 ⟨rfl, State.Warmed39.refl s, rfl⟩ trivial
  refine ⟨n, _, h1, h2, h3, hpost _ _ _ _ _ _ ⟨Cond.after_iff.mpr rfl, Cond.after_iff.mpr (eq_i res_at (Term.int_eval (1)) rfl), trivial⟩ ⟨hq.1, hq.2.1, (hq.2.2.sift fun y hy => Or.inr (N y hy)).mono (by decide) (by decide)⟩⟩
theorem main_1_1 : Claimed_1_1 := comes_1 fun _ _ _ _ _ _ h hF => ⟨h.1, hF⟩
theorem main_1_2 : Claimed_1_2 := comes_1 fun _ _ _ _ _ _ h hF => ⟨h.2.1, hF⟩
end Jvm.Pilot.@@N@@
namespace Jvm.Pilot.@@N@@
open Jvm Jvm.ClassFile Sem Op Lib Jvm.Free Jvm.Stand Jvm.Pilot.@@N@@.Jvm.D
/-! MADE BY PROGRAM (witnessworld.py) out of the Statement's table words and the real class files: 9 classes; the members and pool entries that the words name. The judged class is class 1, her method 1. -/
namespace start1
open Jvm.ClassFile
def u (s : String) : CpInfo := .utf8 (stringToUtf16 s)
/-- a pool by its gaps: so many unusable entries, then the entry; so many at the end -/
def gap : Nat → List CpInfo → List CpInfo
  | 0, r => r
  | n + 1, r => .unusable :: gap n r
def poolList (es : List (Nat × CpInfo)) (last : Nat) : List CpInfo := es.foldr (fun e r => gap e.1 (e.2 :: r)) (gap last [])
def pool (es : List (Nat × CpInfo)) (last : Nat) : Array CpInfo := ⟨poolList es last⟩
def fileOf (pool : Array CpInfo) (this : Nat) (attrs : Array Attribute := #[]) (ms : Array MethodInfo := #[]) (fl : Nat := 33) (sup : Nat := 0) (ifs : Array Nat := #[]) (fds : Array FieldInfo := #[]) : ClassFile where
  minorVersion := 0
  majorVersion := 65
  constantPool := pool
  accessFlags := fl
  thisClass := this
  superClass := sup
  interfaces := ifs
  fields := fds
  methods := ms
  attributes := attrs
def plain (name : String) (sup : Option ClassId) : Class where
  name := name
  kind := .ordinary
  loader := none
  accessFlags := 33
  super := sup
  interfaces := #[]
  cf := none
  fields := #[]
  methods := #[]
  instanceTypes := #[]
  staticTypes := #[]
  resolved := #[]
  callSites := []
  init := .initialized
  statics := none
  mirror := none

def pool0 : Array CpInfo := pool [(5, u "<init>"), (0, u "()V"), (1, .class_ 10), (1, u "java/lang/Object")] 113

def k0c0 : Code := { maxStack := 0, maxLocals := 1, code := object_method_1_code, exceptionTable := #[], attributes := #[] }
def k0m0 : Method := { name := "<init>", desc := "()V", sig := { parameters := [], returnType := none }, accessFlags := 1, code := some k0c0 }
/-- java/lang/Object -/
def k0 : Class := { plain "java/lang/Object" none with
  accessFlags := 33
  interfaces := #[]
  cf := some (fileOf pool0 8 #[] #[{ accessFlags := 1, nameIndex := 5, descriptorIndex := 6, attributes := #[] }] 33 0 #[] #[])
  fields := #[]
  methods := #[k0m0]
  instanceTypes := #[]
  staticTypes := #[]
  resolved := Array.replicate 124 none
  statics := none }

def pool1 : Array CpInfo := pool [(2, .class_ 4), (1, u "java/lang/Object"), (0, u "<init>"), (0, u "()V"), (2, .long 9223372036854775807), (1, .class_ 12), (0, u "com/example/keysieve/keysieve/Placement"), (0, .long 137438953408), (1, .methodref 11 16), (0, .nameAndType 17 18), (0, u "of"), (0, u "(JI)Lcom/example/keysieve/keysieve/Placement;"), (0, .methodref 11 20), (0, .nameAndType 21 22), (0, u "bits"), (0, u "()J"), (0, .long 64), (1, .methodref 11 26), (0, .nameAndType 27 28), (0, u "hashes"), (0, u "()I"), (0, .class_ 30), (0, u "com/example/keysieve/keysieve/PlacementOfPinLaw"), (2, u "law"), (0, u "(JI)Z")] 3

def k1m0 : Method := { name := "<init>", desc := "()V", sig := { parameters := [], returnType := none }, accessFlags := 1, code := none }
def k1c1 : Code := { maxStack := 4, maxLocals := 12, code := code, exceptionTable := #[], attributes := #[] }
def k1m1 : Method := { name := "law", desc := "(JI)Z", sig := { parameters := [.long, .int], returnType := some .boolean }, accessFlags := 9, code := some k1c1 }
/-- com/example/keysieve/keysieve/PlacementOfPinLaw -/
def k1 : Class := { plain "com/example/keysieve/keysieve/PlacementOfPinLaw" (some 0) with
  accessFlags := 49
  interfaces := #[]
  cf := some (fileOf pool1 29 #[] #[{ accessFlags := 1, nameIndex := 5, descriptorIndex := 6, attributes := #[] }, { accessFlags := 9, nameIndex := 33, descriptorIndex := 34, attributes := #[] }] 49 2 #[] #[])
  fields := #[]
  methods := #[k1m0, k1m1]
  instanceTypes := #[]
  staticTypes := #[]
  resolved := Array.replicate 38 none
  statics := none }

def pool2 : Array CpInfo := pool [(5, .methodref 6 7), (0, .class_ 8), (0, .nameAndType 9 10), (0, u "java/lang/Object"), (0, u "<init>"), (0, u "()V"), (0, .fieldref 12 13), (0, .class_ 14), (0, .nameAndType 15 16), (0, u "com/example/keysieve/keysieve/Placement"), (0, u "bits"), (0, u "J"), (0, .fieldref 12 18), (0, .nameAndType 19 20), (0, u "hashes"), (0, u "I"), (0, .long 137438953408), (13, .long 64), (1, .methodref 12 38), (0, .nameAndType 9 39), (0, u "(JI)V"), (15, u "()J"), (21, u "MAX_HASHES"), (2, u "MAX_BITS"), (2, u "of"), (0, u "(JI)Lcom/example/keysieve/keysieve/Placement;"), (1, u "()I")] 27

def k2c0 : Code := { maxStack := 3, maxLocals := 4, code := prog_10_method_1_code, exceptionTable := #[], attributes := #[] }
def k2m0 : Method := { name := "<init>", desc := "(JI)V", sig := { parameters := [.long, .int], returnType := none }, accessFlags := 2, code := some k2c0 }
def k2c1 : Code := { maxStack := 6, maxLocals := 5, code := prog_10_method_2_code, exceptionTable := #[], attributes := #[] }
def k2m1 : Method := { name := "of", desc := "(JI)Lcom/example/keysieve/keysieve/Placement;", sig := { parameters := [.long, .int], returnType := some (.object "com/example/keysieve/keysieve/Placement") }, accessFlags := 9, code := some k2c1 }
def k2c2 : Code := { maxStack := 2, maxLocals := 1, code := prog_10_method_3_code, exceptionTable := #[], attributes := #[] }
def k2m2 : Method := { name := "bits", desc := "()J", sig := { parameters := [], returnType := some .long }, accessFlags := 1, code := some k2c2 }
def k2c3 : Code := { maxStack := 1, maxLocals := 1, code := prog_10_method_4_code, exceptionTable := #[], attributes := #[] }
def k2m3 : Method := { name := "hashes", desc := "()I", sig := { parameters := [], returnType := some .int }, accessFlags := 1, code := some k2c3 }
/-- com/example/keysieve/keysieve/Placement -/
def k2 : Class := { plain "com/example/keysieve/keysieve/Placement" (some 0) with
  accessFlags := 49
  interfaces := #[]
  cf := some (fileOf pool2 12 #[] #[{ accessFlags := 2, nameIndex := 9, descriptorIndex := 39, attributes := #[] }, { accessFlags := 9, nameIndex := 83, descriptorIndex := 84, attributes := #[] }, { accessFlags := 1, nameIndex := 15, descriptorIndex := 55, attributes := #[] }, { accessFlags := 1, nameIndex := 19, descriptorIndex := 86, attributes := #[] }] 49 6 #[] #[{ accessFlags := 25, nameIndex := 77, descriptorIndex := 20, attributes := #[] }, { accessFlags := 25, nameIndex := 80, descriptorIndex := 16, attributes := #[] }, { accessFlags := 18, nameIndex := 15, descriptorIndex := 16, attributes := #[] }, { accessFlags := 18, nameIndex := 19, descriptorIndex := 20, attributes := #[] }])
  fields := #[{ name := "MAX_HASHES", type := .int, accessFlags := 25, slot := 0, constantValue := 0 }, { name := "MAX_BITS", type := .long, accessFlags := 25, slot := 1, constantValue := 0 }, { name := "bits", type := .long, accessFlags := 18, slot := 0, constantValue := 0 }, { name := "hashes", type := .int, accessFlags := 18, slot := 1, constantValue := 0 }]
  methods := #[k2m0, k2m1, k2m2, k2m3]
  instanceTypes := #[.long, .int]
  staticTypes := #[.int, .long]
  resolved := Array.replicate 114 none
  statics := none }

def pool3 : Array CpInfo := pool [(1, u "java/lang/Cloneable"), (0, .class_ 1), (0, u "java/lang/Object"), (0, .class_ 3)] 3

/-- java/lang/Cloneable -/
def k3 : Class := { plain "java/lang/Cloneable" (some 0) with
  accessFlags := 1537
  interfaces := #[]
  cf := some (fileOf pool3 2 #[] #[] 1537 4 #[] #[])
  fields := #[]
  methods := #[]
  instanceTypes := #[]
  staticTypes := #[]
  resolved := Array.replicate 8 none
  statics := none }

def pool4 : Array CpInfo := pool [(1, u "java/io/Serializable"), (0, .class_ 1), (0, u "java/lang/Object"), (0, .class_ 3)] 3

/-- java/io/Serializable -/
def k4 : Class := { plain "java/io/Serializable" (some 0) with
  accessFlags := 1537
  interfaces := #[]
  cf := some (fileOf pool4 2 #[] #[] 1537 4 #[] #[])
  fields := #[]
  methods := #[]
  instanceTypes := #[]
  staticTypes := #[]
  resolved := Array.replicate 8 none
  statics := none }

/-- the primitive byte -/
def k5 : Class := { plain "byte" none with kind := .primitive 'B', accessFlags := 0x411 }
/-- [B -/
def k6 : Class := { plain "[B" (some 0) with kind := .array 5 .byte, interfaces := #[3, 4], accessFlags := 1041 }

/-- the primitive int -/
def k7 : Class := { plain "int" none with kind := .primitive 'I', accessFlags := 0x411 }
/-- [I -/
def k8 : Class := { plain "[I" (some 0) with kind := .array 7 .int, interfaces := #[3, 4], accessFlags := 1041 }

def heap : Heap := #[]
def classes : Array Class := #[k0, k1, k2, k3, k4, k5, k6, k7, k8]
def interned : List (Array UInt16 × Addr) := []
def slotsUsed : Nat := 0
def theMethod : MethodId := ⟨1, 1⟩
def args0 : Array Value := #[.long 12345, .int 7]
def aboutOver (below : List Frame) : State where
  vm := { classes := classes, interned := interned.toArray }
  heap := heap
  slotsUsed := slotsUsed
  threads := #[{ frames := .invoking theMethod args0 :: below }]
def below0 : List Frame := [.native { method := ⟨0, 0⟩, args := #[] }]
def about1 : State := aboutOver below0
def p0 : Program := .bare "" "" ""
def e0 : Env := launch0.env 0 0 0
theorem w_frames : about1.frames = Frame.invoking theMethod args0 :: below0 := rfl
set_option maxRecDepth 65536 in
theorem w_args : argsFit about1.vm theMethod args0 = true := by decide +kernel
set_option maxRecDepth 65536 in
theorem w_heap : heapFits about1 = true := by decide +kernel
set_option maxRecDepth 65536 in
theorem w_runnable : about1.curStatus? = some .runnable := by decide +kernel
set_option maxRecDepth 65536 in
theorem w_alone : about1.alone = true := by decide +kernel
set_option maxRecDepth 65536 in
theorem w_named : about1.methodNamed? x = some theMethod := by decide +kernel
set_option maxRecDepth 65536 in
theorem w_hears : about1.hears theMethod below0 = true := by decide +kernel
set_option maxRecDepth 65536 in
theorem w_ripe : about1.ripe theMethod args0 below0 = true := by decide +kernel
theorem w_running : about1.status = .running := rfl
set_option maxRecDepth 65536 in
theorem w_room : about1.hasRoom e0.platform room_1 = true :=
  launch0.hasRoom_least _ room_1 (by decide +kernel) (by decide +kernel) (by decide +kernel) (by decide +kernel) (by decide +kernel) (by decide +kernel)
theorem allAtoms_all (ts : List Jvm.Cond) (a : Array Jvm.Value) (st : Jvm.State) : (allAtoms ts).before a st = ts.all (fun c => c.before a st) := by
  induction ts with
  | nil => rfl
  | cons c t ih =>
    show (Jvm.Cond.and c (allAtoms t)).before a st = _
    rw [Jvm.Cond.before_and, ih, List.all_cons]
def words1 : List Jvm.Cond := Jvm.Cond.code x code maxLocals ret :: tables_1
/-- a 'code' word, met by the world's own term for the bytes: nothing is compared byte by byte -/
theorem code_word {y : MethodName} {bytes : ByteArray} {mx : Nat} {rt : Option FieldType} {a : Array Value} {s : State} {m : MethodId} {meth : Method} {c : Code} (h1 : s.methodNamed? y = some m) (h2 : s.vm.method? m = some meth) (h3 : meth.code = some c) (h4 : c.code = bytes)
    (h5 : (c.maxLocals == mx && c.exceptionTable.isEmpty && decide (c.maxStack ≤ mostOperands) && decide (meth.sig.returnType = rt) && !meth.locks && decide (parseMethodDescriptor y.desc = some meth.sig)) = true) : (Jvm.Cond.code y bytes mx rt).before a s = true := by
  simp only [Bool.and_eq_true, beq_iff_eq, Bool.not_eq_true', decide_eq_true_eq] at h5
  obtain ⟨⟨⟨⟨⟨g1, g2⟩, g3⟩, g4⟩, g5⟩, g6⟩ := h5
  simp [Cond.before, Cond.holds, Cond.value, h1, h2, h3, h4, g1, g2, g3, g4, g5, g6]
def isCode : Jvm.Cond → Bool
  | .code _ _ _ _ => true
  | _ => false
theorem all_split {L : List Jvm.Cond} {P : Jvm.Cond → Bool} (h1 : L.all (fun c => isCode c || P c) = true) (h2 : ∀ c ∈ L.filter isCode, P c = true) : L.all P = true := by
  refine List.all_eq_true.mpr fun c hc => ?_
  have h := List.all_eq_true.mp h1 c hc
  rcases Bool.eq_false_or_eq_true (isCode c) with hi | hi
  · exact h2 c (List.mem_filter.mpr ⟨hc, hi⟩)
  · simpa [hi] using h
set_option maxRecDepth 65536 in
theorem w_c0 : (Jvm.Cond.code x code maxLocals ret).before args0 about1 = true := code_word (m := ⟨1, 1⟩) (meth := k1m1) (c := k1c1) (by decide +kernel) rfl rfl rfl (by decide +kernel)
set_option maxRecDepth 65536 in
theorem w_c1 : (Jvm.Cond.code ({ cls := "com/example/keysieve/keysieve/Placement", name := "of", desc := "(JI)Lcom/example/keysieve/keysieve/Placement;" } : Jvm.MethodName) prog_10_method_2_code (5 : Nat) (Option.some (Jvm.ClassFile.FieldType.object "com/example/keysieve/keysieve/Placement"))).before args0 about1 = true := code_word (m := ⟨2, 1⟩) (meth := k2m1) (c := k2c1) (by decide +kernel) rfl rfl rfl (by decide +kernel)
set_option maxRecDepth 65536 in
theorem w_c2 : (Jvm.Cond.code ({ cls := "com/example/keysieve/keysieve/Placement", name := "<init>", desc := "(JI)V" } : Jvm.MethodName) prog_10_method_1_code (4 : Nat) (Option.none : Option Jvm.ClassFile.FieldType)).before args0 about1 = true := code_word (m := ⟨2, 0⟩) (meth := k2m0) (c := k2c0) (by decide +kernel) rfl rfl rfl (by decide +kernel)
set_option maxRecDepth 65536 in
theorem w_c3 : (Jvm.Cond.code ({ cls := "java/lang/Object", name := "<init>", desc := "()V" } : Jvm.MethodName) object_method_1_code (1 : Nat) (Option.none : Option Jvm.ClassFile.FieldType)).before args0 about1 = true := code_word (m := ⟨0, 0⟩) (meth := k0m0) (c := k0c0) (by decide +kernel) rfl rfl rfl (by decide +kernel)
set_option maxRecDepth 65536 in
theorem w_c4 : (Jvm.Cond.code ({ cls := "com/example/keysieve/keysieve/Placement", name := "bits", desc := "()J" } : Jvm.MethodName) prog_10_method_3_code (1 : Nat) (Option.some Jvm.ClassFile.FieldType.long)).before args0 about1 = true := code_word (m := ⟨2, 2⟩) (meth := k2m2) (c := k2c2) (by decide +kernel) rfl rfl rfl (by decide +kernel)
set_option maxRecDepth 65536 in
theorem w_c5 : (Jvm.Cond.code ({ cls := "com/example/keysieve/keysieve/Placement", name := "hashes", desc := "()I" } : Jvm.MethodName) prog_10_method_4_code (1 : Nat) (Option.some Jvm.ClassFile.FieldType.int)).before args0 about1 = true := code_word (m := ⟨2, 3⟩) (meth := k2m3) (c := k2c3) (by decide +kernel) rfl rfl rfl (by decide +kernel)
def codes1 : List Jvm.Cond := [Jvm.Cond.code x code maxLocals ret, Jvm.Cond.code ({ cls := "com/example/keysieve/keysieve/Placement", name := "of", desc := "(JI)Lcom/example/keysieve/keysieve/Placement;" } : Jvm.MethodName) prog_10_method_2_code (5 : Nat) (Option.some (Jvm.ClassFile.FieldType.object "com/example/keysieve/keysieve/Placement")), Jvm.Cond.code ({ cls := "com/example/keysieve/keysieve/Placement", name := "<init>", desc := "(JI)V" } : Jvm.MethodName) prog_10_method_1_code (4 : Nat) (Option.none : Option Jvm.ClassFile.FieldType), Jvm.Cond.code ({ cls := "java/lang/Object", name := "<init>", desc := "()V" } : Jvm.MethodName) object_method_1_code (1 : Nat) (Option.none : Option Jvm.ClassFile.FieldType), Jvm.Cond.code ({ cls := "com/example/keysieve/keysieve/Placement", name := "bits", desc := "()J" } : Jvm.MethodName) prog_10_method_3_code (1 : Nat) (Option.some Jvm.ClassFile.FieldType.long), Jvm.Cond.code ({ cls := "com/example/keysieve/keysieve/Placement", name := "hashes", desc := "()I" } : Jvm.MethodName) prog_10_method_4_code (1 : Nat) (Option.some Jvm.ClassFile.FieldType.int)]
set_option maxRecDepth 65536 in
theorem codes_eq : words1.filter isCode = codes1 := rfl
theorem w_codes : ∀ c ∈ words1.filter isCode, c.before args0 about1 = true := by
  rw [codes_eq]
  intro c hc
  simp only [codes1, List.mem_cons, List.not_mem_nil, or_false] at hc
  rcases hc with rfl | rfl | rfl | rfl | rfl | rfl
  · exact w_c0
  · exact w_c1
  · exact w_c2
  · exact w_c3
  · exact w_c4
  · exact w_c5
set_option maxRecDepth 65536 in
theorem w_t1 : (words1.take 24).all (fun c => isCode c || c.before args0 about1) = true := by decide +kernel
set_option maxRecDepth 65536 in
theorem w_t2 : (words1.drop 24).all (fun c => isCode c || c.before args0 about1) = true := by decide +kernel
theorem w_tables : (allAtoms (Jvm.Cond.code x code maxLocals ret :: tables_1)).before args0 about1 = true := by
  rw [allAtoms_all]
  show words1.all (fun c => c.before args0 about1) = true
  refine all_split ?_ w_codes
  rw [← List.take_append_drop 24 words1, List.all_append, w_t1, w_t2]
  rfl
set_option maxRecDepth 65536 in
theorem w_case : (Jvm.Cond.and given_1 narrow_1).before args0 about1 = true := by decide +kernel
theorem w_applies : (headSpec (Jvm.Cond.code x code maxLocals ret :: tables_1) room_1).applies x e0.platform about1 = true :=
  (Spec.applies_iff w_frames).mpr ⟨w_running, w_runnable, w_alone, w_named, w_hears, w_ripe, w_room, w_tables⟩
theorem atStart : AtStart classFile x code maxLocals ret World_1 tables_1 room_1 Calls_1 rest_1 Pre_1 launch0 p0 e0 about1 theMethod args0 below0 :=
  ⟨lists_1, trivial, launch0.admits_env _ _ _, launch0.least_env, fairChoices_fair.cas, fairChoices_fair.clock, w_frames, w_args, w_heap, w_applies, trivial, trivial, w_case⟩
end start1
theorem witness_1 : WitnessClaimed_1 := ⟨start1.p0, start1.e0, start1.about1, start1.theMethod, start1.args0, start1.below0, start1.atStart⟩
end Jvm.Pilot.@@N@@
