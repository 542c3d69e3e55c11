import JvmDerived
import JvmDerived.Pilot.@@N@@Statement
import JvmDerived.Pilot.@@N@@Code
set_option linter.unusedVariables false
set_option linter.unusedSimpArgs false
namespace Jvm.RoadKit
open Sem ClassFile Op Lib Jvm.Stand Jvm.Free Jvm.LawKit
section New
variable {p : Program} {l : Launch} {e : Env} {R : Room} {s : State} {m : MethodId} {args : Array Value} {below : List Frame} {meth : Method} {c : Code} {T : State} {locs : List Loc} {cells slots : Nat}
theorem retI (X : Stand p l e R s m args below meth c T locs cells slots) (hx : p.tables.exec = Jvm.exec) {pc : Nat} {Ls : Array Slot} {z : Int32} {rest : List Value} (hret : meth.sig.returnType = some .int) (hd : decode c.code pc = .ok (.ireturn, 1)) {fs : List Frame}
    (hl : ∀ (f : JFrame) (acts : List Action), f.method = m → f.locked = none → f.entered = [] → (doReturn e (T.setTop f) acts (some (.int z))).1 = T.setFrames fs) : Steps p.tables e below (T.setTop (mkF m pc Ls (.int z :: rest))) (T.setFrames fs) := by
  have hm' : T.vm.method? m = some meth := X.method'
  have hn : narrow .int (.int z) = .int z := rfl
  show Steps p.tables e below (T.setTop { method := m, pc := pc, locals := Ls, stack := _ :: rest, locked := none }) _
  jvm_step X.here [X.here.top, hx, hd, hm', hret, hn]
  first | (intro acts; rw [hl _ acts rfl rfl rfl]) | rw [hl _ _ rfl rfl rfl]
  exact Steps.refl _
end New
end Jvm.RoadKit
namespace Jvm.Pilot.@@N@@
open Jvm Jvm.ClassFile Sem Op Lib Jvm.Free Jvm.Stand Jvm.LawKit Jvm.RoadKit Bundle Jvm.Pilot.@@N@@.Jvm.D
theorem own_sel {s : State} {a : Array Value} {y : MethodName} {n : Nat} (hi : (Jvm.Cond.instanceMethod y).before a s = true) (hp : (Jvm.Cond.privateMethod y).before a s = true) (hn : (Jvm.Cond.instantiable y.cls n).before a s = true) (hx : y.cls ≠ "java/lang/invoke/MethodHandle" ∧ y.cls ≠ "java/lang/invoke/VarHandle") : (Jvm.Cond.selects y.cls y y).before a s = true := by
  obtain ⟨m, meth, h1, h2, h3, h4⟩ := Cond.instanceMethod_spec hi
  obtain ⟨c, k, c1, c2, c3, c4, -⟩ := Cond.instantiable_spec hn
  have hf := State.methodFound?_of_named h1 hx
  have hc := findClass_of_methodNamed h1
  obtain rfl : c = m.cls := Option.some.inj (c1.symm.trans hc)
  have hs : selectMethod {} s.vm m.cls m = .method m := selectMethod_private h2 (Cond.privateMethod_at hp m meth h1 h2)
  have hk : k.isInterface = false := by simp only [Bool.or_eq_false_iff] at c4; exact c4.1
  simp [Cond.before, Cond.holds, Cond.value, hc, hf, h1, hs, c2, hk]
section OwnArr
variable {p : Program} {l : Launch} {e : Env} {R : Room} {s : State} {m : MethodId} {args : Array Value} {below : List Frame} {meth : Method} {c : Code} {T : State} {locs : List Loc} {cells slots : Nat} {Z : State} {h : Heap}
theorem own_map_set {α β : Type} (f : α → β) (L : List α) (i : Nat) (x : α) : (L.map f).set i (f x) = (L.set i x).map f := List.map_set.symm
theorem own_getI (L : List Int32) (i : Nat) : (L.map Value.int).getD i (.int 0) = .int (L.getD i 0) := by
  simp only [List.getD_eq_getElem?_getD, List.getElem?_map]; cases L[i]? <;> rfl
theorem own_getJ (L : List Int64) (i : Nat) : (L.map Value.long).getD i (.long 0) = .long (L.getD i 0) := by
  simp only [List.getD_eq_getElem?_getD, List.getElem?_map]; cases L[i]? <;> rfl
theorem own_stI (X : Stand p l e R s m args below meth c T locs cells slots) (hx : p.tables.exec = Jvm.exec) (hZ : Z.Warmed39 s.vm) (eT : T.heap = h) {a : Addr} {k : ClassId} {z : Int32} {L : List Int32} (F : Arv Z h a k .int z (L.map Value.int) (.int 0)) {j x : Int32} (hj : ¬ j < 0 ∧ j < z) (hl : j.toNatClampNeg < L.length) {g : JFrame} (hg : g.method = m) {rest : List Value} (hs : g.stack = .int x :: .int j :: .ref a :: rest) (hd : decode c.code g.pc = .ok (.iastore, 1)) :
    ∃ T' h', Stand p l e R s m args below meth c T' (locs ++ [⟨a, j.toNatClampNeg⟩]) cells slots ∧ T'.heap = h' ∧ Wr h h' a j.toNatClampNeg (.int x) ∧ Arv Z h' a k .int z ((L.set j.toNatClampNeg x).map Value.int) (.int 0) ∧ ∀ target, Steps p.tables e below (T'.setTop { g with pc := g.pc + 1, stack := rest }) target → Steps p.tables e below (T.setTop g) target := by
  obtain ⟨cl, Ar, q, Sz, Nn, Hh, Gg⟩ := F
  obtain ⟨T', h', X', e', W, st⟩ := stI X hx hZ eT Ar (j := j) (inb_of Sz hj) hg hs hd
  refine ⟨T', h', X', e', W, ?_, st⟩
  have := Arv.set Ar q Sz Nn Hh Gg (v := .int x) rfl W _ rfl (by simpa using hl)
  rw [own_map_set] at this; exact this
theorem own_stJ (X : Stand p l e R s m args below meth c T locs cells slots) (hx : p.tables.exec = Jvm.exec) (hZ : Z.Warmed39 s.vm) (eT : T.heap = h) {a : Addr} {k : ClassId} {z : Int32} {L : List Int64} (F : Arv Z h a k .long z (L.map Value.long) (.long 0)) {j : Int32} {x : Int64} (hj : ¬ j < 0 ∧ j < z) (hl : j.toNatClampNeg < L.length) {g : JFrame} (hg : g.method = m) {rest : List Value} (hs : g.stack = .long x :: .int j :: .ref a :: rest) (hd : decode c.code g.pc = .ok (.lastore, 1)) :
    ∃ T' h', Stand p l e R s m args below meth c T' (locs ++ [⟨a, j.toNatClampNeg⟩]) cells slots ∧ T'.heap = h' ∧ Wr h h' a j.toNatClampNeg (.long x) ∧ Arv Z h' a k .long z ((L.set j.toNatClampNeg x).map Value.long) (.long 0) ∧ ∀ target, Steps p.tables e below (T'.setTop { g with pc := g.pc + 1, stack := rest }) target → Steps p.tables e below (T.setTop g) target := by
  obtain ⟨cl, Ar, q, Sz, Nn, Hh, Gg⟩ := F
  obtain ⟨T', h', X', e', W, st⟩ := stJ X hx hZ eT Ar (j := j) (inb_of Sz hj) hg hs hd
  refine ⟨T', h', X', e', W, ?_, st⟩
  have := Arv.set Ar q Sz Nn Hh Gg (v := .long x) rfl W _ rfl (by simpa using hl)
  rw [own_map_set] at this; exact this
theorem own_ldI (X : Stand p l e R s m args below meth c T locs cells slots) (hx : p.tables.exec = Jvm.exec) (hZ : Z.Warmed39 s.vm) (eT : T.heap = h) {a : Addr} {k : ClassId} {z : Int32} {L : List Int32} (F : Arv Z h a k .int z (L.map Value.int) (.int 0)) {j : Int32} (hj : ¬ j < 0 ∧ j < z) {g : JFrame} (hg : g.method = m) {rest : List Value} (hs : g.stack = .int j :: .ref a :: rest) (hd : decode c.code g.pc = .ok (.iaload, 1)) (target : State)
    (hrest : Steps p.tables e below (T.setTop { g with pc := g.pc + 1, stack := .int (L.getD j.toNatClampNeg 0) :: rest }) target) : Steps p.tables e below (T.setTop g) target := by
  obtain ⟨cl, Ar, q, Sz, Nn, Hh, Gg⟩ := F
  exact X.iaload hx (j := j) (v := .int (L.getD j.toNatClampNeg 0)) (by rw [eT]; exact Ar.1) (State.isArrayOf_alike hZ.alike Ar.2.1) Ar.2.2 (inb_of Sz hj) (Has.at Hh (inb_of Sz hj) (own_getI L _)) hg hs hd _ hrest
theorem own_ldJ (X : Stand p l e R s m args below meth c T locs cells slots) (hx : p.tables.exec = Jvm.exec) (hZ : Z.Warmed39 s.vm) (eT : T.heap = h) {a : Addr} {k : ClassId} {z : Int32} {L : List Int64} (F : Arv Z h a k .long z (L.map Value.long) (.long 0)) {j : Int32} (hj : ¬ j < 0 ∧ j < z) {g : JFrame} (hg : g.method = m) {rest : List Value} (hs : g.stack = .int j :: .ref a :: rest) (hd : decode c.code g.pc = .ok (.laload, 1)) (target : State)
    (hrest : Steps p.tables e below (T.setTop { g with pc := g.pc + 1, stack := .long (L.getD j.toNatClampNeg 0) :: rest }) target) : Steps p.tables e below (T.setTop g) target := by
  obtain ⟨cl, Ar, q, Sz, Nn, Hh, Gg⟩ := F
  exact X.laload hx (j := j) (v := .long (L.getD j.toNatClampNeg 0)) (by rw [eT]; exact Ar.1) (State.isArrayOf_alike hZ.alike Ar.2.1) Ar.2.2 (inb_of Sz hj) (Has.at Hh (inb_of Sz hj) (own_getJ L _)) hg hs hd _ hrest
theorem own_len (X : Stand p l e R s m args below meth c T locs cells slots) (hx : p.tables.exec = Jvm.exec) (hZ : Z.Warmed39 s.vm) (eT : T.heap = h) {a : Addr} {k : ClassId} {ty : FieldType} {z : Int32} {vs : List Value} {d : Value} (F : Arv Z h a k ty z vs d) {g : JFrame} (hg : g.method = m) {rest : List Value} (hs : g.stack = .ref a :: rest) (hd : decode c.code g.pc = .ok (.arraylength, 1)) (target : State)
    (hrest : Steps p.tables e below (T.setTop { g with pc := g.pc + 1, stack := .int z :: rest }) target) : Steps p.tables e below (T.setTop g) target := by
  obtain ⟨cl, Ar, q, Sz, Nn, Hh, Gg⟩ := F
  refine X.arraylength hx (by rw [eT]; exact Ar.1) (State.isArrayOf_alike hZ.alike Ar.2.1) hg hs hd _ ?_
  rw [len_of Sz Nn]; exact hrest
theorem own_neA {a b : Addr} {C : String} {k : ClassId} {ty : FieldType} {z : Int32} {vs : List Value} {d : Value} {a0 : Array Value} {n : Nat} (F : Exa Z h a C) (wi : (Jvm.Cond.instantiable C n).before a0 Z = true) (G : Arv Z h b k ty z vs d) : a ≠ b := by
  obtain ⟨cl, Ar, -⟩ := G; exact ne_arr F wi Ar
end OwnArr
/-- an array of ten references, of exactly Object[] -/
def own_ED (Z : State) (h : Heap) (a : Addr) : Prop := ∃ c : Cell, Arr Z h a c (.object "java/lang/Object") ∧ c.slots.size = 10 ∧ Ovr Z c.cls "java/lang/Object"
theorem own_ED.lt {Z : State} {h : Heap} {a : Addr} (F : own_ED Z h a) : a < h.size := by obtain ⟨c, A, -⟩ := F; exact A.lt
theorem own_ED.ext {Z : State} {h h' : Heap} {a : Addr} (F : own_ED Z h a) (E : Ext h h') : own_ED Z h' a := by obtain ⟨c, A, r⟩ := F; exact ⟨c, A.ext E, r⟩
theorem own_ED.other {Z : State} {h h' : Heap} {a b : Addr} {sl : Nat} {v : Value} (F : own_ED Z h b) (W : Wr h h' a sl v) (q : b ≠ a) : own_ED Z h' b := by obtain ⟨c, A, r⟩ := F; exact ⟨c, A.other W q, r⟩
theorem own_ED.keep {Z : State} {h h' : Heap} {a : Addr} {ws : List Addr} (F : own_ED Z h a) (K : Keep h h' ws) (q : a ∉ ws) : own_ED Z h' a := by obtain ⟨c, A, r⟩ := F; exact ⟨c, ⟨K.2.1 a c A.1 q, A.2⟩, r⟩
theorem own_ED.same {Z : State} {h h' : Heap} {a : Addr} {sl : Nat} {v : Value} (F : own_ED Z h a) (W : Wr h h' a sl v) : own_ED Z h' a := by
  obtain ⟨c, A, r1, r2⟩ := F; exact ⟨_, A.same W, by simpa [Cell.setSlot] using r1, r2⟩
theorem own_szO : (10 : Int32).toNatClampNeg = 10 := by decide
theorem own_ED.new {Z : State} {h : Heap} {a : Addr} {k : ClassId} (A : Arr Z h a (newA k (.object "java/lang/Object") 10) (.object "java/lang/Object")) (O : Ovr Z k "java/lang/Object") : own_ED Z h a := ⟨_, A, (sz_new _ _ _).trans own_szO, O⟩
abbrev own_AL (Z : State) (h : Heap) (a : Addr) (ed : Value) (sz mc : Int32) : Prop := Exa Z h a "java/util/ArrayList" ∧ Fld Z h a "java/util/ArrayList" "elementData" "[Ljava/lang/Object;" ed ∧ Fld Z h a "java/util/ArrayList" "size" "I" (.int sz) ∧ Fld Z h a "java/util/AbstractList" "modCount" "I" (.int mc)
theorem d5_0 : decode jdk_22_method_1_code 0 = .ok (.aload_n 0, 1) := by decide +kernel
theorem d5_1 : decode jdk_22_method_1_code 1 = .ok (.invokespecial 1, 3) := by decide +kernel
theorem d5_4 : decode jdk_22_method_1_code 4 = .ok (.return_, 1) := by decide +kernel
theorem pn_5 : plainName "java/util/AbstractCollection" = true := by first | (simp [plainName, overriddenIn]; done) | decide +kernel
theorem ef_acol (m : MethodId) (x0 : Addr) : entryFrame m #[(.ref x0)] 1 = mkF m 0 #[.val (.ref x0)] [] := by first | (simp [entryFrame, mkF, argsToLocals, Value.category]; done) | rfl
def Qacol (Z : State) (a1 : Addr) (h0 : Heap) (n0 : Nat) (v : Option Value) (h : Heap) (L : List Loc) : Prop := v = none ∧ Fr n0 L ∧ h = h0
set_option maxRecDepth 65536 in
set_option maxHeartbeats 40000000 in
theorem rm_acol (l : Launch) (Z : State) (a0 : Array Value) (hw : ∀ d ∈ tables_1, d.before a0 Z = true) (ws : List Jvm.Cond) (a1 : Addr) (h0 : Heap) (n0 : Nat) (Z0 : n0 ≤ h0.size) :
    MetFree l (⟨"java/util/AbstractCollection", "<init>", "()V"⟩ : MethodName) (head1 (Jvm.Cond.code (⟨"java/util/AbstractCollection", "<init>", "()V"⟩ : MethodName) jdk_22_method_1_code 1 none :: ws) ({ frames := 1, cells := 0, slots := 0, locals := 12 } : Room)) (fun a U => a = #[(.ref a1)] ∧ Z.Warmed39 U.vm ∧ U.heap = h0) (fun _ _ _ _ _ => True) (fun _ U o U' => ∃ v L, o = .returned v ∧ Qacol Z a1 h0 n0 v U'.heap L ∧ FrameEnd U o U' L ({ frames := 1, cells := 0, slots := 0, locals := 12 } : Room).cells ({ frames := 1, cells := 0, slots := 0, locals := 12 } : Room).slots) := by
  refine MetFree.of_bodySF (plainFor_of_name pn_5) hisR ?_
  intro p e s m args below meth c s₁ Bd hml0 hP hK
  obtain ⟨rfl, hZ, hh⟩ := hP
  have hx := Bd.exec
  have hby := Bd.bytes
  have hml : c.maxLocals = 1 := hml0
  have hown : s.vm.findClass "java/util/AbstractCollection" = some m.cls := findClass_of_methodNamed Bd.named
  have hnm := (name_of_methodNamed Bd.named Bd.method).1
  have X0 : Stand p l e ({ frames := 1, cells := 0, slots := 0, locals := 12 } : Room) s m #[(.ref a1)] below meth c s₁ [] 0 0 := Stand.of_body Bd
  have e0 : s₁.heap = h0 := by rw [← hh, Bd.state]; rfl
  have N0 := Fr.nil n0
  have k0 : ∀ t, Steps p.tables e below (s₁.setTop (mkF m 0 #[.val (.ref a1)] [])) t → Steps p.tables e below (s₁.setTop (entryFrame m #[(.ref a1)] 1)) t := fun t k => castTop (ef_acol m a1) k
  obtain ⟨T1, X1, e1, st1⟩ := initO X0 hx hZ hown (hw _ (List.mem_of_getElem? (i := 29) rfl)) (hw _ (List.mem_of_getElem? (i := 9) rfl)) (hw _ (List.mem_of_getElem? (i := 10) rfl)) e0 (g := (mkF m 1 #[.val (.ref a1)] [(.ref a1)])) rfl (by rw [hml]; rfl) rfl (hb hby d5_1) (by decide) (W := 0) (by show 2 * 0 + _ ≤ _; exact Nat.le_of_eq rfl) (by decide)
  have k3 : ∀ t, Steps p.tables e below (T1.setTop (mkF m 4 #[.val (.ref a1)] [])) t → Steps p.tables e below (s₁.setTop (entryFrame m #[(.ref a1)] 1)) t := fun t k => k0 t (by
    show Steps p.tables e below (s₁.setTop (mkF m 0 #[.val (.ref a1)] [])) _
    refine XS.aloadN X0.here hx rfl (hb hby d5_0) rfl rfl ?_
    show Steps p.tables e below (s₁.setTop (mkF m 1 #[.val (.ref a1)] [(.ref a1)])) _
    refine st1 _ ?_
    exact k)
  obtain ⟨fs, hr, hrun, hended, hW, hsame⟩ := X1.leave (v := none) (fun _ => rfl) (BodyLoose.notSynchronized Bd)
  refine ⟨_, _, k3 _ ?_, hrun, hended, _, _, rfl, ?_, ⟨_, rfl⟩, hW, hsame.mono (by decide) (by decide)⟩
  · show Steps p.tables e below (T1.setTop (mkF m 4 #[.val (.ref a1)] [])) _
    exact X1.returnOut hx Bd.returns (hb hby d5_4) hr
  ·
    show Qacol _ a1 h0 n0 _ T1.heap _
    rw [e1]
    exact ⟨rfl, N0, rfl⟩
theorem pd___V : parseMethodDescriptor "()V" = some ⟨[], none⟩ := by decide +kernel
theorem d4_0 : decode jdk_39_method_1_code 0 = .ok (.aload_n 0, 1) := by decide +kernel
theorem d4_1 : decode jdk_39_method_1_code 1 = .ok (.invokespecial 1, 3) := by decide +kernel
theorem d4_4 : decode jdk_39_method_1_code 4 = .ok (.aload_n 0, 1) := by decide +kernel
theorem d4_5 : decode jdk_39_method_1_code 5 = .ok (.iconst 0, 1) := by decide +kernel
theorem d4_6 : decode jdk_39_method_1_code 6 = .ok (.putfield 7, 3) := by decide +kernel
theorem d4_9 : decode jdk_39_method_1_code 9 = .ok (.return_, 1) := by decide +kernel
theorem pn_4 : plainName "java/util/AbstractList" = true := by first | (simp [plainName, overriddenIn]; done) | decide +kernel
theorem ef_alist (m : MethodId) (x0 : Addr) : entryFrame m #[(.ref x0)] 1 = mkF m 0 #[.val (.ref x0)] [] := by first | (simp [entryFrame, mkF, argsToLocals, Value.category]; done) | rfl
def Qalist (Z : State) (a1 : Addr) (h0 : Heap) (n0 : Nat) (v : Option Value) (h : Heap) (L : List Loc) : Prop := v = none ∧ Fr n0 L ∧ Keep h0 h [a1] ∧ own_AL Z h a1 .null 0 0
set_option maxRecDepth 65536 in
set_option maxHeartbeats 40000000 in
theorem rm_alist (l : Launch) (Z : State) (a0 : Array Value) (hw : ∀ d ∈ tables_1, d.before a0 Z = true) (ws : List Jvm.Cond) (a1 : Addr) (h0 : Heap) (n0 : Nat) (Z0 : n0 ≤ h0.size) (S1 : own_AL Z h0 a1 .null 0 0) (g_a1 : n0 ≤ a1) :
    MetFree l (⟨"java/util/AbstractList", "<init>", "()V"⟩ : MethodName) (head1 (Jvm.Cond.code (⟨"java/util/AbstractList", "<init>", "()V"⟩ : MethodName) jdk_39_method_1_code 1 none :: ws) ({ frames := 2, cells := 0, slots := 0, locals := 24 } : Room)) (fun a U => a = #[(.ref a1)] ∧ Z.Warmed39 U.vm ∧ U.heap = h0) (fun _ _ _ _ _ => True) (fun _ U o U' => ∃ v L, o = .returned v ∧ Qalist Z a1 h0 n0 v U'.heap L ∧ FrameEnd U o U' L ({ frames := 2, cells := 0, slots := 0, locals := 24 } : Room).cells ({ frames := 2, cells := 0, slots := 0, locals := 24 } : Room).slots) := by
  refine MetFree.of_bodySF (plainFor_of_name pn_4) hisR ?_
  intro p e s m args below meth c s₁ Bd hml0 hP hK
  obtain ⟨rfl, hZ, hh⟩ := hP
  have hx := Bd.exec
  have hby := Bd.bytes
  have hml : c.maxLocals = 1 := hml0
  have hown : s.vm.findClass "java/util/AbstractList" = some m.cls := findClass_of_methodNamed Bd.named
  have hnm := (name_of_methodNamed Bd.named Bd.method).1
  have X0 : Stand p l e ({ frames := 2, cells := 0, slots := 0, locals := 24 } : Room) s m #[(.ref a1)] below meth c s₁ [] 0 0 := Stand.of_body Bd
  have e0 : s₁.heap = h0 := by rw [← hh, Bd.state]; rfl
  have N0 := Fr.nil n0
  have k0 : ∀ t, Steps p.tables e below (s₁.setTop (mkF m 0 #[.val (.ref a1)] [])) t → Steps p.tables e below (s₁.setTop (entryFrame m #[(.ref a1)] 1)) t := fun t k => castTop (ef_alist m a1) k
  obtain ⟨E1, F1a, F1b, F1c⟩ := S1
  obtain ⟨_, _, ⟨T2, L2, kk2, n2⟩, -, X2, ⟨Lc2, hQ2, l2, y2, z2⟩, st2⟩ := X0.specialBack hx (y := (⟨"java/util/AbstractCollection", "<init>", "()V"⟩ : MethodName)) rfl hown (mvT hZ (hw _ (List.mem_of_getElem? (i := 23) rfl))) (mvT hZ (hw _ (List.mem_of_getElem? (i := 24) rfl))) (mvT hZ (hw _ (List.mem_of_getElem? (i := 28) rfl))) (by decide) (backOf (W := 0) (rm_acol l Z a0 hw [] a1 h0 n0 Z0) hZ (hw _ (List.mem_of_getElem? (i := 28) rfl)) (hw _ (List.mem_of_getElem? (i := 27) rfl)) (by decide) (by decide)) (g := (mkF m 1 #[.val (.ref a1)] [(.ref a1)])) rfl (by rw [hml]; rfl) (Steps.refl _) (a := a1) (argsL := []) (rest := []) (lenOf pd___V rfl) rfl (by show 2 * 0 + _ ≤ _; exact Nat.le_of_eq rfl) (hb hby d4_1) (fun _ _ => ⟨rfl, e0, (by decide : 0 + 0 ≤ _), (by decide : 0 + 0 ≤ _)⟩)
  dsimp only [Pt.U, Pt.locs, Pt.cells, Pt.slots] at X2 l2 y2 z2 st2 hQ2
  subst l2 y2 z2
  obtain ⟨rfl, N2q, qa⟩ := hQ2
  have N2 := Fr.app N0 N2q
  obtain ⟨T3, h3, X3, e3, W3, st3⟩ := putF X2 hx hZ hown (host := "") (Or.inl (hw _ (List.mem_of_getElem? (i := 30) rfl))) Via.refl qa F1c E1 (Or.inl (hw _ (List.mem_of_getElem? (i := 31) rfl))) (hw _ (List.mem_of_getElem? (i := 12) rfl)) (ty := .int) (by decide) rfl rfl (g := (mkF m 6 #[.val (.ref a1)] [(.int (0 : Int32)), (.ref a1)])) rfl rfl (hb hby d4_6)
  have N3 := Fr.snoc X3 N2 g_a1
  have F4 : Fld Z h3 a1 "java/util/AbstractList" "modCount" "I" (.int (0 : Int32)) := F1c.same W3
  have E5 : Exa Z h3 a1 "java/util/ArrayList" := E1.wr W3
  have F6 : Fld Z h3 a1 "java/util/ArrayList" "elementData" "[Ljava/lang/Object;" .null := F1a.other W3 (Or.inr (slot_ne (Or.inl (hw _ (List.mem_of_getElem? (i := 34) rfl))) (Or.inl (hw _ (List.mem_of_getElem? (i := 31) rfl))) (by decide) (t := (.array (.object "java/lang/Object"))) (t' := .int) (by decide) (by decide)))
  have F7 : Fld Z h3 a1 "java/util/ArrayList" "size" "I" (.int (0 : Int32)) := F1b.other W3 (Or.inr (slot_ne (Or.inl (hw _ (List.mem_of_getElem? (i := 60) rfl))) (Or.inl (hw _ (List.mem_of_getElem? (i := 31) rfl))) (by decide) (t := .int) (t' := .int) (by decide) (by decide)))
  have K8 : Keep h0 h3 [a1] := (Keep.refl h0 [a1]).wr W3 (Or.inl (List.mem_of_getElem? (i := 0) rfl))
  have k10 : ∀ t, Steps p.tables e below (T3.setTop (mkF m 9 #[.val (.ref a1)] [])) t → Steps p.tables e below (s₁.setTop (entryFrame m #[(.ref a1)] 1)) t := fun t k => k0 t (by
    show Steps p.tables e below (s₁.setTop (mkF m 0 #[.val (.ref a1)] [])) _
    refine XS.aloadN X0.here hx rfl (hb hby d4_0) rfl rfl ?_
    show Steps p.tables e below (s₁.setTop (mkF m 1 #[.val (.ref a1)] [(.ref a1)])) _
    refine st2.trans ?_
    show Steps p.tables e below (T2.setTop (mkF m 4 #[.val (.ref a1)] [])) _
    refine XS.aloadN X2.here hx rfl (hb hby d4_4) rfl rfl ?_
    show Steps p.tables e below (T2.setTop (mkF m 5 #[.val (.ref a1)] [(.ref a1)])) _
    refine XS.iconst X2.here hx rfl (hb hby d4_5) ?_
    show Steps p.tables e below (T2.setTop (mkF m 6 #[.val (.ref a1)] [(.int (0 : Int32)), (.ref a1)])) _
    refine st3 _ ?_
    exact k)
  obtain ⟨fs, hr, hrun, hended, hW, hsame⟩ := X3.leave (v := none) (fun _ => rfl) (BodyLoose.notSynchronized Bd)
  refine ⟨_, _, k10 _ ?_, hrun, hended, _, _, rfl, ?_, ⟨_, rfl⟩, hW, hsame.mono (by decide) (by decide)⟩
  · show Steps p.tables e below (T3.setTop (mkF m 9 #[.val (.ref a1)] [])) _
    exact X3.returnOut hx Bd.returns (hb hby d4_9) hr
  ·
    show Qalist _ a1 h0 n0 _ T3.heap _
    rw [e3]
    exact ⟨rfl, N3, K8, ⟨E5, F6, F7, F4⟩⟩
theorem d3_0 : decode jdk_38_method_2_code 0 = .ok (.aload_n 0, 1) := by decide +kernel
theorem d3_1 : decode jdk_38_method_2_code 1 = .ok (.invokespecial 1, 3) := by decide +kernel
theorem d3_4 : decode jdk_38_method_2_code 4 = .ok (.aload_n 0, 1) := by decide +kernel
theorem d3_5 : decode jdk_38_method_2_code 5 = .ok (.getstatic 39, 3) := by decide +kernel
theorem d3_8 : decode jdk_38_method_2_code 8 = .ok (.putfield 9, 3) := by decide +kernel
theorem d3_11 : decode jdk_38_method_2_code 11 = .ok (.return_, 1) := by decide +kernel
theorem pn_3 : plainName "java/util/ArrayList" = true := by first | (simp [plainName, overriddenIn]; done) | decide +kernel
theorem ef_arl (m : MethodId) (x0 : Addr) : entryFrame m #[(.ref x0)] 1 = mkF m 0 #[.val (.ref x0)] [] := by first | (simp [entryFrame, mkF, argsToLocals, Value.category]; done) | rfl
def Qarl (Z : State) (a1 : Addr) (w : Addr) (kw : ClassId) (h0 : Heap) (n0 : Nat) (v : Option Value) (h : Heap) (L : List Loc) : Prop := v = none ∧ Fr n0 L ∧ Keep h0 h [a1] ∧ own_AL Z h a1 (.ref w) 0 0
set_option maxRecDepth 65536 in
set_option maxHeartbeats 40000000 in
theorem rm_arl (l : Launch) (Z : State) (a0 : Array Value) (hw : ∀ d ∈ tables_1, d.before a0 Z = true) (ws : List Jvm.Cond) (a1 : Addr) (w : Addr) (kw : ClassId) (h0 : Heap) (n0 : Nat) (Z0 : n0 ≤ h0.size) (S1 : own_AL Z h0 a1 .null 0 0) (g_a1 : n0 ≤ a1) (S0 : Sta Z Z.heap "java/util/ArrayList" "DEFAULTCAPACITY_EMPTY_ELEMENTDATA" "[Ljava/lang/Object;" (.ref w)) (O0 : Old Z n0 h0) :
    MetFree l (⟨"java/util/ArrayList", "<init>", "()V"⟩ : MethodName) (head1 (Jvm.Cond.code (⟨"java/util/ArrayList", "<init>", "()V"⟩ : MethodName) jdk_38_method_2_code 1 none :: ws) ({ frames := 3, cells := 0, slots := 0, locals := 36 } : Room)) (fun a U => a = #[(.ref a1)] ∧ Z.Warmed39 U.vm ∧ U.heap = h0) (fun _ _ _ _ _ => True) (fun _ U o U' => ∃ v L, o = .returned v ∧ Qarl Z a1 w kw h0 n0 v U'.heap L ∧ FrameEnd U o U' L ({ frames := 3, cells := 0, slots := 0, locals := 36 } : Room).cells ({ frames := 3, cells := 0, slots := 0, locals := 36 } : Room).slots) := by
  refine MetFree.of_bodySF (plainFor_of_name pn_3) hisR ?_
  intro p e s m args below meth c s₁ Bd hml0 hP hK
  obtain ⟨rfl, hZ, hh⟩ := hP
  have hx := Bd.exec
  have hby := Bd.bytes
  have hml : c.maxLocals = 1 := hml0
  have hown : s.vm.findClass "java/util/ArrayList" = some m.cls := findClass_of_methodNamed Bd.named
  have hnm := (name_of_methodNamed Bd.named Bd.method).1
  have X0 : Stand p l e ({ frames := 3, cells := 0, slots := 0, locals := 36 } : Room) s m #[(.ref a1)] below meth c s₁ [] 0 0 := Stand.of_body Bd
  have e0 : s₁.heap = h0 := by rw [← hh, Bd.state]; rfl
  have N0 := Fr.nil n0
  have k0 : ∀ t, Steps p.tables e below (s₁.setTop (mkF m 0 #[.val (.ref a1)] [])) t → Steps p.tables e below (s₁.setTop (entryFrame m #[(.ref a1)] 1)) t := fun t k => castTop (ef_arl m a1) k
  obtain ⟨E1, F1a, F1b, F1c⟩ := S1
  obtain ⟨_, _, ⟨T2, L2, kk2, n2⟩, -, X2, ⟨Lc2, hQ2, l2, y2, z2⟩, st2⟩ := X0.specialBack hx (y := (⟨"java/util/AbstractList", "<init>", "()V"⟩ : MethodName)) rfl hown (mvT hZ (hw _ (List.mem_of_getElem? (i := 17) rfl))) (mvT hZ (hw _ (List.mem_of_getElem? (i := 18) rfl))) (mvT hZ (hw _ (List.mem_of_getElem? (i := 22) rfl))) (by decide) (backOf (W := 0) (rm_alist l Z a0 hw [] a1 h0 n0 Z0 ⟨E1, F1a, F1b, F1c⟩ g_a1) hZ (hw _ (List.mem_of_getElem? (i := 22) rfl)) (hw _ (List.mem_of_getElem? (i := 21) rfl)) (by decide) (by decide)) (g := (mkF m 1 #[.val (.ref a1)] [(.ref a1)])) rfl (by rw [hml]; rfl) (Steps.refl _) (a := a1) (argsL := []) (rest := []) (lenOf pd___V rfl) rfl (by show 2 * 0 + _ ≤ _; exact Nat.le_of_eq rfl) (hb hby d3_1) (fun _ _ => ⟨rfl, e0, (by decide : 0 + 0 ≤ _), (by decide : 0 + 0 ≤ _)⟩)
  dsimp only [Pt.U, Pt.locs, Pt.cells, Pt.slots] at X2 l2 y2 z2 st2 hQ2
  subst l2 y2 z2
  obtain ⟨rfl, N2q, Ka, Sa⟩ := hQ2
  have N2 := Fr.app N0 N2q
  have K3 : Keep h0 T2.heap [a1] := (Keep.refl h0 [a1]).trans Ka (allS (Or.inl (List.mem_of_getElem? (i := 0) rfl)) all0)
  have O4 : Old Z n0 T2.heap := O0.keep Ka (allS g_a1 all0)
  have E5 : Exa Z T2.heap a1 "java/util/ArrayList" := E1.keep Ka
  obtain ⟨E6, F6a, F6b, F6c⟩ := Sa
  obtain ⟨T7, X7, e7, st7⟩ := getS2 X2 hx hZ hown (host := "") (Or.inl (hw _ (List.mem_of_getElem? (i := 32) rfl))) Via.refl rfl (S0.ext O4.2) (g := (mkF m 5 #[.val (.ref a1)] [(.ref a1)])) rfl (hb hby d3_5)
  obtain ⟨T8, h8, X8, e8, W8, st8⟩ := putF X7 hx hZ hown (host := "") (Or.inl (hw _ (List.mem_of_getElem? (i := 33) rfl))) Via.refl e7 F6a E6 (Or.inl (hw _ (List.mem_of_getElem? (i := 34) rfl))) (hw _ (List.mem_of_getElem? (i := 12) rfl)) (ty := (.array (.object "java/lang/Object"))) (by decide) rfl rfl (g := (mkF m 8 #[.val (.ref a1)] [(.ref w), (.ref a1)])) rfl rfl (hb hby d3_8)
  have N8 := Fr.snoc X8 N2 g_a1
  have F9 : Fld Z h8 a1 "java/util/ArrayList" "elementData" "[Ljava/lang/Object;" (.ref w) := F6a.same W8
  have O10 : Old Z n0 h8 := O4.wr W8 g_a1
  have E11 : Exa Z h8 a1 "java/util/ArrayList" := E6.wr W8
  have F12 : Fld Z h8 a1 "java/util/ArrayList" "size" "I" (.int (0 : Int32)) := F6b.other W8 (Or.inr (slot_ne (Or.inl (hw _ (List.mem_of_getElem? (i := 60) rfl))) (Or.inl (hw _ (List.mem_of_getElem? (i := 34) rfl))) (by decide) (t := .int) (t' := (.array (.object "java/lang/Object"))) (by decide) (by decide)))
  have F13 : Fld Z h8 a1 "java/util/AbstractList" "modCount" "I" (.int (0 : Int32)) := F6c.other W8 (Or.inr (slot_ne (Or.inl (hw _ (List.mem_of_getElem? (i := 31) rfl))) (Or.inl (hw _ (List.mem_of_getElem? (i := 34) rfl))) (by decide) (t := .int) (t' := (.array (.object "java/lang/Object"))) (by decide) (by decide)))
  have K14 : Keep h0 h8 [a1] := K3.wr W8 (Or.inl (List.mem_of_getElem? (i := 0) rfl))
  have k16 : ∀ t, Steps p.tables e below (T8.setTop (mkF m 11 #[.val (.ref a1)] [])) t → Steps p.tables e below (s₁.setTop (entryFrame m #[(.ref a1)] 1)) t := fun t k => k0 t (by
    show Steps p.tables e below (s₁.setTop (mkF m 0 #[.val (.ref a1)] [])) _
    refine XS.aloadN X0.here hx rfl (hb hby d3_0) rfl rfl ?_
    show Steps p.tables e below (s₁.setTop (mkF m 1 #[.val (.ref a1)] [(.ref a1)])) _
    refine st2.trans ?_
    show Steps p.tables e below (T2.setTop (mkF m 4 #[.val (.ref a1)] [])) _
    refine XS.aloadN X2.here hx rfl (hb hby d3_4) rfl rfl ?_
    show Steps p.tables e below (T2.setTop (mkF m 5 #[.val (.ref a1)] [(.ref a1)])) _
    refine st7 _ ?_
    show Steps p.tables e below (T7.setTop (mkF m 8 #[.val (.ref a1)] [(.ref w), (.ref a1)])) _
    refine st8 _ ?_
    exact k)
  obtain ⟨fs, hr, hrun, hended, hW, hsame⟩ := X8.leave (v := none) (fun _ => rfl) (BodyLoose.notSynchronized Bd)
  refine ⟨_, _, k16 _ ?_, hrun, hended, _, _, rfl, ?_, ⟨_, rfl⟩, hW, hsame.mono (by decide) (by decide)⟩
  · show Steps p.tables e below (T8.setTop (mkF m 11 #[.val (.ref a1)] [])) _
    exact X8.returnOut hx Bd.returns (hb hby d3_11) hr
  ·
    show Qarl _ a1 w kw h0 n0 _ T8.heap _
    rw [e8]
    exact ⟨rfl, N8, K14, ⟨E11, F9, F12, F13⟩⟩
theorem d8_0 : decode jdk_38_method_8_code 0 = .ok (.aload_n 0, 1) := by decide +kernel
theorem d8_1 : decode jdk_38_method_8_code 1 = .ok (.getfield 48, 3) := by decide +kernel
theorem d8_4 : decode jdk_38_method_8_code 4 = .ok (.ireturn, 1) := by decide +kernel
theorem pn_8 : plainName "java/util/ArrayList" = true := by first | (simp [plainName, overriddenIn]; done) | decide +kernel
theorem ef_size (m : MethodId) (x0 : Addr) : entryFrame m #[(.ref x0)] 1 = mkF m 0 #[.val (.ref x0)] [] := by first | (simp [entryFrame, mkF, argsToLocals, Value.category]; done) | rfl
def Qsize (Z : State) (a1 : Addr) (sz : Int32) (h0 : Heap) (n0 : Nat) (v : Option Value) (h : Heap) (L : List Loc) : Prop := v = some (.int sz) ∧ Fr n0 L ∧ h = h0
set_option maxRecDepth 65536 in
set_option maxHeartbeats 40000000 in
theorem rm_size (l : Launch) (Z : State) (a0 : Array Value) (hw : ∀ d ∈ tables_1, d.before a0 Z = true) (ws : List Jvm.Cond) (a1 : Addr) (sz : Int32) (h0 : Heap) (n0 : Nat) (Z0 : n0 ≤ h0.size) (F1 : Fld Z h0 a1 "java/util/ArrayList" "size" "I" (.int sz)) :
    MetFree l (⟨"java/util/ArrayList", "size", "()I"⟩ : MethodName) (head1 (Jvm.Cond.code (⟨"java/util/ArrayList", "size", "()I"⟩ : MethodName) jdk_38_method_8_code 1 (some .int) :: ws) ({ frames := 0, cells := 0, slots := 0, locals := 0 } : Room)) (fun a U => a = #[(.ref a1)] ∧ Z.Warmed39 U.vm ∧ U.heap = h0) (fun _ _ _ _ _ => True) (fun _ U o U' => ∃ v L, o = .returned v ∧ Qsize Z a1 sz h0 n0 v U'.heap L ∧ FrameEnd U o U' L ({ frames := 0, cells := 0, slots := 0, locals := 0 } : Room).cells ({ frames := 0, cells := 0, slots := 0, locals := 0 } : Room).slots) := by
  refine MetFree.of_bodySF (plainFor_of_name pn_8) hisR ?_
  intro p e s m args below meth c s₁ Bd hml0 hP hK
  obtain ⟨rfl, hZ, hh⟩ := hP
  have hx := Bd.exec
  have hby := Bd.bytes
  have hml : c.maxLocals = 1 := hml0
  have hown : s.vm.findClass "java/util/ArrayList" = some m.cls := findClass_of_methodNamed Bd.named
  have hnm := (name_of_methodNamed Bd.named Bd.method).1
  have X0 : Stand p l e ({ frames := 0, cells := 0, slots := 0, locals := 0 } : Room) s m #[(.ref a1)] below meth c s₁ [] 0 0 := Stand.of_body Bd
  have e0 : s₁.heap = h0 := by rw [← hh, Bd.state]; rfl
  have N0 := Fr.nil n0
  have k0 : ∀ t, Steps p.tables e below (s₁.setTop (mkF m 0 #[.val (.ref a1)] [])) t → Steps p.tables e below (s₁.setTop (entryFrame m #[(.ref a1)] 1)) t := fun t k => castTop (ef_size m a1) k
  obtain ⟨T1, X1, e1, st1⟩ := getF X0 hx hZ hown (host := "") (Or.inl (hw _ (List.mem_of_getElem? (i := 59) rfl))) Via.refl e0 F1 (g := (mkF m 1 #[.val (.ref a1)] [(.ref a1)])) rfl rfl (hb hby d8_1)
  have k3 : ∀ t, Steps p.tables e below (T1.setTop (mkF m 4 #[.val (.ref a1)] [(.int sz)])) t → Steps p.tables e below (s₁.setTop (entryFrame m #[(.ref a1)] 1)) t := fun t k => k0 t (by
    show Steps p.tables e below (s₁.setTop (mkF m 0 #[.val (.ref a1)] [])) _
    refine XS.aloadN X0.here hx rfl (hb hby d8_0) rfl rfl ?_
    show Steps p.tables e below (s₁.setTop (mkF m 1 #[.val (.ref a1)] [(.ref a1)])) _
    refine st1 _ ?_
    exact k)
  obtain ⟨fs, hr, hrun, hended, hW, hsame⟩ := X1.leave (v := some (.int sz)) (fun h => by rw [Bd.returns] at h; cases h) (BodyLoose.notSynchronized Bd)
  refine ⟨_, _, k3 _ ?_, hrun, hended, _, _, rfl, ?_, ⟨_, rfl⟩, hW, hsame.mono (by decide) (by decide)⟩
  · show Steps p.tables e below (T1.setTop (mkF m 4 #[.val (.ref a1)] [(.int sz)])) _
    exact retI X1 hx Bd.returns (hb hby d8_4) hr
  ·
    show Qsize _ a1 sz h0 n0 _ T1.heap _
    rw [e1]
    exact ⟨rfl, N0, rfl⟩
def own_max (p1 : Int32) (p2 : Int32) : Int32 := (if p1 < p2 then p2 else p1)
theorem d13_0 : decode jdk_29_method_65_code 0 = .ok (.iload_n 0, 1) := by decide +kernel
theorem d13_1 : decode jdk_29_method_65_code 1 = .ok (.iload_n 1, 1) := by decide +kernel
theorem d13_2 : decode jdk_29_method_65_code 2 = .ok (.if_icmp .lt 7, 3) := by decide +kernel
theorem d13_5 : decode jdk_29_method_65_code 5 = .ok (.iload_n 0, 1) := by decide +kernel
theorem d13_6 : decode jdk_29_method_65_code 6 = .ok (.goto 4, 3) := by decide +kernel
theorem d13_9 : decode jdk_29_method_65_code 9 = .ok (.iload_n 1, 1) := by decide +kernel
theorem d13_10 : decode jdk_29_method_65_code 10 = .ok (.ireturn, 1) := by decide +kernel
theorem ef_max (m : MethodId) (x0 : Int32) (x1 : Int32) : entryFrame m #[(.int x0), (.int x1)] 2 = mkF m 0 #[.val (.int x0), .val (.int x1)] [] := by first | (simp [entryFrame, mkF, argsToLocals, Value.category]; done) | rfl
def Qmax (Z : State) (p1 : Int32) (p2 : Int32) (h0 : Heap) (n0 : Nat) (v : Option Value) (h : Heap) (L : List Loc) : Prop := v = some (.int (own_max p1 p2)) ∧ Fr n0 L ∧ h = h0
set_option maxRecDepth 65536 in
set_option maxHeartbeats 40000000 in
theorem rm_max (l : Launch) (Z : State) (a0 : Array Value) (hw : ∀ d ∈ tables_1, d.before a0 Z = true) (ws : List Jvm.Cond) (p1 : Int32) (p2 : Int32) (h0 : Heap) (n0 : Nat) (Z0 : n0 ≤ h0.size) :
    MetFree l (⟨"java/lang/Math", "max", "(II)I"⟩ : MethodName) (head1 (Jvm.Cond.code (⟨"java/lang/Math", "max", "(II)I"⟩ : MethodName) jdk_29_method_65_code 2 (some .int) :: ws) ({ frames := 0, cells := 0, slots := 0, locals := 0 } : Room)) (fun a U => a = #[(.int p1), (.int p2)] ∧ Z.Warmed39 U.vm ∧ U.heap = h0) (fun _ _ _ _ _ => True) (fun _ U o U' => ∃ v L, o = .returned v ∧ Qmax Z p1 p2 h0 n0 v U'.heap L ∧ FrameEnd U o U' L ({ frames := 0, cells := 0, slots := 0, locals := 0 } : Room).cells ({ frames := 0, cells := 0, slots := 0, locals := 0 } : Room).slots) := by
  refine MetFree.of_bodySF (Jvm.Free.JP.mathPlain rfl (by decide +kernel)) hisR ?_
  intro p e s m args below meth c s₁ Bd hml0 hP hK
  obtain ⟨rfl, hZ, hh⟩ := hP
  have hx := Bd.exec
  have hby := Bd.bytes
  have hml : c.maxLocals = 2 := hml0
  have hown : s.vm.findClass "java/lang/Math" = some m.cls := findClass_of_methodNamed Bd.named
  have hnm := (name_of_methodNamed Bd.named Bd.method).1
  have X0 : Stand p l e ({ frames := 0, cells := 0, slots := 0, locals := 0 } : Room) s m #[(.int p1), (.int p2)] below meth c s₁ [] 0 0 := Stand.of_body Bd
  have e0 : s₁.heap = h0 := by rw [← hh, Bd.state]; rfl
  have N0 := Fr.nil n0
  have k0 : ∀ t, Steps p.tables e below (s₁.setTop (mkF m 0 #[.val (.int p1), .val (.int p2)] [])) t → Steps p.tables e below (s₁.setTop (entryFrame m #[(.int p1), (.int p2)] 2)) t := fun t k => castTop (ef_max m p1 p2) k
  have k1 : ∀ t, Steps p.tables e below (s₁.setTop (mkF m 2 #[.val (.int p1), .val (.int p2)] [(.int p2), (.int p1)])) t → Steps p.tables e below (s₁.setTop (entryFrame m #[(.int p1), (.int p2)] 2)) t := fun t k => k0 t (by
    show Steps p.tables e below (s₁.setTop (mkF m 0 #[.val (.int p1), .val (.int p2)] [])) _
    refine XS.iloadN X0.here hx rfl (hb hby d13_0) rfl ?_
    show Steps p.tables e below (s₁.setTop (mkF m 1 #[.val (.int p1), .val (.int p2)] [(.int p1)])) _
    refine XS.iloadN X0.here hx rfl (hb hby d13_1) rfl ?_
    exact k)
  by_cases cd2 : p1 < p2
  ·
    have hv : own_max p1 p2 = p2 := (if_pos cd2)
    have k3 : ∀ t, Steps p.tables e below (s₁.setTop (mkF m 10 #[.val (.int p1), .val (.int p2)] [(.int p2)])) t → Steps p.tables e below (s₁.setTop (entryFrame m #[(.int p1), (.int p2)] 2)) t := fun t k => k1 t (by
      show Steps p.tables e below (s₁.setTop (mkF m 2 #[.val (.int p1), .val (.int p2)] [(.int p2), (.int p1)])) _
      refine XS.icmpYes X0.here hx rfl (pc0 := 2) (pc' := 9) rfl (hb hby d13_2) rfl (tlt cd2).1 (by decide) (by decide) ?_
      show Steps p.tables e below (s₁.setTop (mkF m 9 #[.val (.int p1), .val (.int p2)] [])) _
      refine XS.iloadN X0.here hx rfl (hb hby d13_9) rfl ?_
      exact k)
    obtain ⟨fs, hr, hrun, hended, hW, hsame⟩ := X0.leave (v := some (.int p2)) (fun h => by rw [Bd.returns] at h; cases h) (BodyLoose.notSynchronized Bd)
    refine ⟨_, _, k3 _ ?_, hrun, hended, _, _, rfl, ?_, ⟨_, rfl⟩, hW, hsame.mono (by decide) (by decide)⟩
    · show Steps p.tables e below (s₁.setTop (mkF m 10 #[.val (.int p1), .val (.int p2)] [(.int p2)])) _
      exact retI X0 hx Bd.returns (hb hby d13_10) hr
    ·
      show Qmax _ p1 p2 h0 n0 _ s₁.heap _
      rw [e0]
      exact ⟨by rw [hv], N0, rfl⟩
  ·
    have hv : own_max p1 p2 = p1 := (if_neg cd2)
    have k5 : ∀ t, Steps p.tables e below (s₁.setTop (mkF m 10 #[.val (.int p1), .val (.int p2)] [(.int p1)])) t → Steps p.tables e below (s₁.setTop (entryFrame m #[(.int p1), (.int p2)] 2)) t := fun t k => k1 t (by
      show Steps p.tables e below (s₁.setTop (mkF m 2 #[.val (.int p1), .val (.int p2)] [(.int p2), (.int p1)])) _
      refine XS.icmpNo X0.here hx rfl (hb hby d13_2) rfl (flt cd2).1 ?_
      show Steps p.tables e below (s₁.setTop (mkF m 5 #[.val (.int p1), .val (.int p2)] [])) _
      refine XS.iloadN X0.here hx rfl (hb hby d13_5) rfl ?_
      show Steps p.tables e below (s₁.setTop (mkF m 6 #[.val (.int p1), .val (.int p2)] [(.int p1)])) _
      refine XS.goto X0.here hx rfl (pc0 := 6) (pc' := 10) rfl (hb hby d13_6) (by decide) (by decide) ?_
      exact k)
    obtain ⟨fs, hr, hrun, hended, hW, hsame⟩ := X0.leave (v := some (.int p1)) (fun h => by rw [Bd.returns] at h; cases h) (BodyLoose.notSynchronized Bd)
    refine ⟨_, _, k5 _ ?_, hrun, hended, _, _, rfl, ?_, ⟨_, rfl⟩, hW, hsame.mono (by decide) (by decide)⟩
    · show Steps p.tables e below (s₁.setTop (mkF m 10 #[.val (.int p1), .val (.int p2)] [(.int p1)])) _
      exact retI X0 hx Bd.returns (hb hby d13_10) hr
    ·
      show Qmax _ p1 p2 h0 n0 _ s₁.heap _
      rw [e0]
      exact ⟨by rw [hv], N0, rfl⟩
theorem pd__II_I : parseMethodDescriptor "(II)I" = some ⟨[.int, .int], some .int⟩ := by decide +kernel
theorem d12_0 : decode jdk_38_method_6_code 0 = .ok (.aload_n 0, 1) := by decide +kernel
theorem d12_1 : decode jdk_38_method_6_code 1 = .ok (.getfield 9, 3) := by decide +kernel
theorem d12_4 : decode jdk_38_method_6_code 4 = .ok (.arraylength, 1) := by decide +kernel
theorem d12_5 : decode jdk_38_method_6_code 5 = .ok (.istore_n 2, 1) := by decide +kernel
theorem d12_6 : decode jdk_38_method_6_code 6 = .ok (.iload_n 2, 1) := by decide +kernel
theorem d12_7 : decode jdk_38_method_6_code 7 = .ok (.ifCond .gt 13, 3) := by decide +kernel
theorem d12_10 : decode jdk_38_method_6_code 10 = .ok (.aload_n 0, 1) := by decide +kernel
theorem d12_11 : decode jdk_38_method_6_code 11 = .ok (.getfield 9, 3) := by decide +kernel
theorem d12_14 : decode jdk_38_method_6_code 14 = .ok (.getstatic 39, 3) := by decide +kernel
theorem d12_17 : decode jdk_38_method_6_code 17 = .ok (.if_acmp .eq 28, 3) := by decide +kernel
theorem d12_45 : decode jdk_38_method_6_code 45 = .ok (.aload_n 0, 1) := by decide +kernel
theorem d12_46 : decode jdk_38_method_6_code 46 = .ok (.bipush 10, 2) := by decide +kernel
theorem d12_48 : decode jdk_38_method_6_code 48 = .ok (.iload_n 1, 1) := by decide +kernel
theorem d12_49 : decode jdk_38_method_6_code 49 = .ok (.invokestatic 79, 3) := by decide +kernel
theorem d12_52 : decode jdk_38_method_6_code 52 = .ok (.anewarray 7, 3) := by decide +kernel
theorem d12_55 : decode jdk_38_method_6_code 55 = .ok (.dup_x1, 1) := by decide +kernel
theorem d12_56 : decode jdk_38_method_6_code 56 = .ok (.putfield 9, 3) := by decide +kernel
theorem d12_59 : decode jdk_38_method_6_code 59 = .ok (.areturn, 1) := by decide +kernel
theorem pn_12 : plainName "java/util/ArrayList" = true := by first | (simp [plainName, overriddenIn]; done) | decide +kernel
theorem ef_growI (m : MethodId) (x0 : Addr) (x1 : Int32) : entryFrame m #[(.ref x0), (.int x1)] 4 = mkF m 0 #[.val (.ref x0), .val (.int x1), .unset, .unset] [] := by first | (simp [entryFrame, mkF, argsToLocals, Value.category]; done) | rfl
def QgrowI (Z : State) (a1 : Addr) (w : Addr) (kw : ClassId) (mc : Int32) (h0 : Heap) (n0 : Nat) (v : Option Value) (h : Heap) (L : List Loc) : Prop := v = some (.ref h0.size) ∧ Fr n0 L ∧ Keep h0 h [a1] ∧ own_AL Z h a1 (.ref h0.size) 0 mc ∧ own_ED Z h h0.size
set_option maxRecDepth 65536 in
set_option maxHeartbeats 40000000 in
theorem rm_growI (l : Launch) (Z : State) (a0 : Array Value) (hw : ∀ d ∈ tables_1, d.before a0 Z = true) (ws : List Jvm.Cond) (a1 : Addr) (w : Addr) (kw : ClassId) (mc : Int32) (h0 : Heap) (n0 : Nat) (Z0 : n0 ≤ h0.size) (S1 : own_AL Z h0 a1 (.ref w) 0 mc) (g_a1 : n0 ≤ a1) (S0 : Sta Z Z.heap "java/util/ArrayList" "DEFAULTCAPACITY_EMPTY_ELEMENTDATA" "[Ljava/lang/Object;" (.ref w)) (A0 : Arv Z Z.heap w kw (.object "java/lang/Object") 0 [] .null) (O0 : Old Z n0 h0) :
    MetFree l (⟨"java/util/ArrayList", "grow", "(I)[Ljava/lang/Object;"⟩ : MethodName) (head1 (Jvm.Cond.code (⟨"java/util/ArrayList", "grow", "(I)[Ljava/lang/Object;"⟩ : MethodName) jdk_38_method_6_code 4 (some (.array (.object "java/lang/Object"))) :: ws) ({ frames := 1, cells := 1, slots := 10, locals := 14 } : Room)) (fun a U => a = #[(.ref a1), (.int (1 : Int32))] ∧ Z.Warmed39 U.vm ∧ U.heap = h0) (fun _ _ _ _ _ => True) (fun _ U o U' => ∃ v L, o = .returned v ∧ QgrowI Z a1 w kw mc h0 n0 v U'.heap L ∧ FrameEnd U o U' L ({ frames := 1, cells := 1, slots := 10, locals := 14 } : Room).cells ({ frames := 1, cells := 1, slots := 10, locals := 14 } : Room).slots) := by
  refine MetFree.of_bodySF (plainFor_of_name pn_12) hisR ?_
  intro p e s m args below meth c s₁ Bd hml0 hP hK
  obtain ⟨rfl, hZ, hh⟩ := hP
  have hx := Bd.exec
  have hby := Bd.bytes
  have hml : c.maxLocals = 4 := hml0
  have hown : s.vm.findClass "java/util/ArrayList" = some m.cls := findClass_of_methodNamed Bd.named
  have hnm := (name_of_methodNamed Bd.named Bd.method).1
  have X0 : Stand p l e ({ frames := 1, cells := 1, slots := 10, locals := 14 } : Room) s m #[(.ref a1), (.int (1 : Int32))] below meth c s₁ [] 0 0 := Stand.of_body Bd
  have e0 : s₁.heap = h0 := by rw [← hh, Bd.state]; rfl
  have N0 := Fr.nil n0
  have k0 : ∀ t, Steps p.tables e below (s₁.setTop (mkF m 0 #[.val (.ref a1), .val (.int (1 : Int32)), .unset, .unset] [])) t → Steps p.tables e below (s₁.setTop (entryFrame m #[(.ref a1), (.int (1 : Int32))] 4)) t := fun t k => castTop (ef_growI m a1 (1 : Int32)) k
  obtain ⟨E1, F1a, F1b, F1c⟩ := S1
  obtain ⟨T2, X2, e2, st2⟩ := getF X0 hx hZ hown (host := "") (Or.inl (hw _ (List.mem_of_getElem? (i := 33) rfl))) Via.refl e0 F1a (g := (mkF m 1 #[.val (.ref a1), .val (.int (1 : Int32)), .unset, .unset] [(.ref a1)])) rfl rfl (hb hby d12_1)
  obtain ⟨T3, X3, e3, st3⟩ := getF X2 hx hZ hown (host := "") (Or.inl (hw _ (List.mem_of_getElem? (i := 33) rfl))) Via.refl e2 F1a (g := (mkF m 11 #[.val (.ref a1), .val (.int (1 : Int32)), .val (.int (0 : Int32)), .unset] [(.ref a1)])) rfl rfl (hb hby d12_11)
  obtain ⟨T4, X4, e4, st4⟩ := getS2 X3 hx hZ hown (host := "") (Or.inl (hw _ (List.mem_of_getElem? (i := 32) rfl))) Via.refl e3 (S0.ext O0.2) (g := (mkF m 14 #[.val (.ref a1), .val (.int (1 : Int32)), .val (.int (0 : Int32)), .unset] [(.ref w)])) rfl (hb hby d12_14)
  obtain ⟨_, _, ⟨T5, L5, kk5, n5⟩, -, X5, ⟨Lc5, hQ5, l5, y5, z5⟩, st5⟩ := Jvm.LawKit.callS X4 hx (y := (⟨"java/lang/Math", "max", "(II)I"⟩ : MethodName)) hown (mvT hZ (hw _ (List.mem_of_getElem? (i := 86) rfl))) (mvT hZ (hw _ (List.mem_of_getElem? (i := 87) rfl))) (mvT hZ (hw _ (List.mem_of_getElem? (i := 88) rfl))) (mvT hZ (hw _ (List.mem_of_getElem? (i := 89) rfl))) (by decide) (backOf (W := 1) (rm_max l Z a0 hw [] (10 : Int32) (1 : Int32) h0 n0 Z0) hZ (hw _ (List.mem_of_getElem? (i := 89) rfl)) (hw _ (List.mem_of_getElem? (i := 88) rfl)) (by decide) (by decide)) (g := (mkF m 49 #[.val (.ref a1), .val (.int (1 : Int32)), .val (.int (0 : Int32)), .unset] [(.int (1 : Int32)), (.int (10 : Int32)), (.ref a1)])) rfl (by rw [hml]; rfl) (argsL := [(.int (10 : Int32)), (.int (1 : Int32))]) (rest := [(.ref a1)]) (lenOf pd__II_I rfl) rfl (by show 2 * 0 + _ ≤ _; exact Nat.le_of_eq rfl) (hb hby d12_49) (fun _ _ => ⟨rfl, e4, (by decide : 0 + 0 ≤ _), (by decide : 0 + 0 ≤ _)⟩)
  dsimp only [Pt.U, Pt.locs, Pt.cells, Pt.slots] at X5 l5 y5 z5 st5 hQ5
  subst l5 y5 z5
  obtain ⟨rfl, N5q, qm⟩ := hQ5
  have N5 := Fr.app N0 N5q
  have k6 : ∀ t, Steps p.tables e below (T5.setTop (mkF m 52 #[.val (.ref a1), .val (.int (1 : Int32)), .val (.int (0 : Int32)), .unset] [(.int (own_max (10 : Int32) (1 : Int32))), (.ref a1)])) t → Steps p.tables e below (s₁.setTop (entryFrame m #[(.ref a1), (.int (1 : Int32))] 4)) t := fun t k => k0 t (by
    show Steps p.tables e below (s₁.setTop (mkF m 0 #[.val (.ref a1), .val (.int (1 : Int32)), .unset, .unset] [])) _
    refine XS.aloadN X0.here hx rfl (hb hby d12_0) rfl rfl ?_
    show Steps p.tables e below (s₁.setTop (mkF m 1 #[.val (.ref a1), .val (.int (1 : Int32)), .unset, .unset] [(.ref a1)])) _
    refine st2 _ ?_
    show Steps p.tables e below (T2.setTop (mkF m 4 #[.val (.ref a1), .val (.int (1 : Int32)), .unset, .unset] [(.ref w)])) _
    refine own_len X2 hx hZ e2 (A0.ext O0.2) (g := (mkF m 4 #[.val (.ref a1), .val (.int (1 : Int32)), .unset, .unset] [(.ref w)])) rfl rfl (hb hby d12_4) _ ?_
    show Steps p.tables e below (T2.setTop (mkF m 5 #[.val (.ref a1), .val (.int (1 : Int32)), .unset, .unset] [(.int (0 : Int32))])) _
    refine XS.istoreN X2.here hx rfl (hb hby d12_5) rfl (l' := #[.val (.ref a1), .val (.int (1 : Int32)), .val (.int (0 : Int32)), .unset]) rfl ?_
    show Steps p.tables e below (T2.setTop (mkF m 6 #[.val (.ref a1), .val (.int (1 : Int32)), .val (.int (0 : Int32)), .unset] [])) _
    refine XS.iloadN X2.here hx rfl (hb hby d12_6) rfl ?_
    show Steps p.tables e below (T2.setTop (mkF m 7 #[.val (.ref a1), .val (.int (1 : Int32)), .val (.int (0 : Int32)), .unset] [(.int (0 : Int32))])) _
    refine XS.ifNo X2.here hx rfl (hb hby d12_7) rfl ((if0 _ _).trans (flt (by decide)).2.2.1) ?_
    show Steps p.tables e below (T2.setTop (mkF m 10 #[.val (.ref a1), .val (.int (1 : Int32)), .val (.int (0 : Int32)), .unset] [])) _
    refine XS.aloadN X2.here hx rfl (hb hby d12_10) rfl rfl ?_
    show Steps p.tables e below (T2.setTop (mkF m 11 #[.val (.ref a1), .val (.int (1 : Int32)), .val (.int (0 : Int32)), .unset] [(.ref a1)])) _
    refine st3 _ ?_
    show Steps p.tables e below (T3.setTop (mkF m 14 #[.val (.ref a1), .val (.int (1 : Int32)), .val (.int (0 : Int32)), .unset] [(.ref w)])) _
    refine st4 _ ?_
    show Steps p.tables e below (T4.setTop (mkF m 17 #[.val (.ref a1), .val (.int (1 : Int32)), .val (.int (0 : Int32)), .unset] [(.ref w), (.ref w)])) _
    refine Jvm.RoadKit.acmp (g := (mkF m 17 #[.val (.ref a1), .val (.int (1 : Int32)), .val (.int (0 : Int32)), .unset] [(.ref w), (.ref w)])) X4 hx rfl rfl rfl (pc0 := 17) (pc' := 45) (same := true) rfl (hb hby d12_17) rfl (decide_eq_true rfl) (by decide) (by decide) ?_
    show Steps p.tables e below (T4.setTop (mkF m 45 #[.val (.ref a1), .val (.int (1 : Int32)), .val (.int (0 : Int32)), .unset] [])) _
    refine XS.aloadN X4.here hx rfl (hb hby d12_45) rfl rfl ?_
    show Steps p.tables e below (T4.setTop (mkF m 46 #[.val (.ref a1), .val (.int (1 : Int32)), .val (.int (0 : Int32)), .unset] [(.ref a1)])) _
    refine XS.bipush X4.here hx rfl (hb hby d12_46) ?_
    show Steps p.tables e below (T4.setTop (mkF m 48 #[.val (.ref a1), .val (.int (1 : Int32)), .val (.int (0 : Int32)), .unset] [(.int (10 : Int32)), (.ref a1)])) _
    refine XS.iloadN X4.here hx rfl (hb hby d12_48) rfl ?_
    show Steps p.tables e below (T4.setTop (mkF m 49 #[.val (.ref a1), .val (.int (1 : Int32)), .val (.int (0 : Int32)), .unset] [(.int (1 : Int32)), (.int (10 : Int32)), (.ref a1)])) _
    refine st5 _ ?_
    exact k)
  have qk7 : (own_max (10 : Int32) (1 : Int32)) = (10 : Int32) := by decide
  have k7 : ∀ t, Steps p.tables e below (T5.setTop (mkF m 52 #[.val (.ref a1), .val (.int (1 : Int32)), .val (.int (0 : Int32)), .unset] [(.int (10 : Int32)), (.ref a1)])) t → Steps p.tables e below (s₁.setTop (entryFrame m #[(.ref a1), (.int (1 : Int32))] 4)) t := by rw [qk7] at k6; exact k6
  obtain ⟨T8, h8, kc8, X8, e8, Ex8, A8, O8, st8⟩ := newR X5 hx hZ hown (hw _ (List.mem_of_getElem? (i := 90) rfl)) (hw _ (List.mem_of_getElem? (i := 91) rfl)) qm (g := (mkF m 52 #[.val (.ref a1), .val (.int (1 : Int32)), .val (.int (0 : Int32)), .unset] [(.int (10 : Int32)), (.ref a1)])) rfl (hb hby d12_52) rfl (by decide) (cap := 10) (by decide) (by decide) (by decide) (by decide)
  obtain ⟨b8, g8⟩ : ∃ z, z = h0.size := ⟨_, rfl⟩
  rw [← g8] at A8 st8
  have sz_b8 : h0.size ≤ b8 := Nat.le_trans (Keep.refl h0 [a1]).1 (Nat.le_of_eq g8.symm)
  have g_b8 : n0 ≤ b8 := Nat.le_trans Z0 sz_b8
  have ne9 : a1 ≠ b8 := Nat.ne_of_lt (Nat.lt_of_lt_of_le E1.lt (Nat.le_of_eq g8.symm))
  have O10 : Old Z n0 h8 := O0.ext Ex8
  have E11 : Exa Z h8 a1 "java/util/ArrayList" := E1.ext Ex8
  have F12 : Fld Z h8 a1 "java/util/ArrayList" "elementData" "[Ljava/lang/Object;" (.ref w) := F1a.ext Ex8
  have F13 : Fld Z h8 a1 "java/util/ArrayList" "size" "I" (.int (0 : Int32)) := F1b.ext Ex8
  have F14 : Fld Z h8 a1 "java/util/AbstractList" "modCount" "I" (.int mc) := F1c.ext Ex8
  have V15 : own_ED Z h8 b8 := own_ED.new A8 O8
  have K16 : Keep h0 h8 [a1] := (Keep.refl h0 [a1]).ext Ex8
  obtain ⟨T17, h17, X17, e17, W17, st17⟩ := putF X8 hx hZ hown (host := "") (Or.inl (hw _ (List.mem_of_getElem? (i := 33) rfl))) Via.refl e8 F12 E11 (Or.inl (hw _ (List.mem_of_getElem? (i := 34) rfl))) (hw _ (List.mem_of_getElem? (i := 12) rfl)) (ty := (.array (.object "java/lang/Object"))) (by decide) rfl rfl (g := (mkF m 56 #[.val (.ref a1), .val (.int (1 : Int32)), .val (.int (0 : Int32)), .unset] [(.ref b8), (.ref a1), (.ref b8)])) rfl rfl (hb hby d12_56)
  have N17 := Fr.snoc X17 N5 g_a1
  have F18 : Fld Z h17 a1 "java/util/ArrayList" "elementData" "[Ljava/lang/Object;" (.ref b8) := F12.same W17
  have O19 : Old Z n0 h17 := O10.wr W17 g_a1
  have E20 : Exa Z h17 a1 "java/util/ArrayList" := E11.wr W17
  have F21 : Fld Z h17 a1 "java/util/ArrayList" "size" "I" (.int (0 : Int32)) := F13.other W17 (Or.inr (slot_ne (Or.inl (hw _ (List.mem_of_getElem? (i := 60) rfl))) (Or.inl (hw _ (List.mem_of_getElem? (i := 34) rfl))) (by decide) (t := .int) (t' := (.array (.object "java/lang/Object"))) (by decide) (by decide)))
  have F22 : Fld Z h17 a1 "java/util/AbstractList" "modCount" "I" (.int mc) := F14.other W17 (Or.inr (slot_ne (Or.inl (hw _ (List.mem_of_getElem? (i := 31) rfl))) (Or.inl (hw _ (List.mem_of_getElem? (i := 34) rfl))) (by decide) (t := .int) (t' := (.array (.object "java/lang/Object"))) (by decide) (by decide)))
  have V23 : own_ED Z h17 b8 := V15.other W17 (Ne.symm ne9)
  have K24 : Keep h0 h17 [a1] := K16.wr W17 (Or.inl (List.mem_of_getElem? (i := 0) rfl))
  have k26 : ∀ t, Steps p.tables e below (T17.setTop (mkF m 59 #[.val (.ref a1), .val (.int (1 : Int32)), .val (.int (0 : Int32)), .unset] [(.ref b8)])) t → Steps p.tables e below (s₁.setTop (entryFrame m #[(.ref a1), (.int (1 : Int32))] 4)) t := fun t k => k7 t (by
    show Steps p.tables e below (T5.setTop (mkF m 52 #[.val (.ref a1), .val (.int (1 : Int32)), .val (.int (0 : Int32)), .unset] [(.int (10 : Int32)), (.ref a1)])) _
    refine st8 _ ?_
    show Steps p.tables e below (T8.setTop (mkF m 55 #[.val (.ref a1), .val (.int (1 : Int32)), .val (.int (0 : Int32)), .unset] [(.ref b8), (.ref a1)])) _
    refine XS.dupX1 X8.here hx rfl (hb hby d12_55) rfl rfl rfl ?_
    show Steps p.tables e below (T8.setTop (mkF m 56 #[.val (.ref a1), .val (.int (1 : Int32)), .val (.int (0 : Int32)), .unset] [(.ref b8), (.ref a1), (.ref b8)])) _
    refine st17 _ ?_
    exact k)
  obtain ⟨fs, hr, hrun, hended, hW, hsame⟩ := X17.leave (v := some (.ref b8)) (fun h => by rw [Bd.returns] at h; cases h) (BodyLoose.notSynchronized Bd)
  refine ⟨_, _, k26 _ ?_, hrun, hended, _, _, rfl, ?_, ⟨_, rfl⟩, hW, hsame.mono (by decide) (by decide)⟩
  · show Steps p.tables e below (T17.setTop (mkF m 59 #[.val (.ref a1), .val (.int (1 : Int32)), .val (.int (0 : Int32)), .unset] [(.ref b8)])) _
    exact X17.areturnOut hx rfl Bd.returns rfl (hb hby d12_59) hr
  ·
    subst g8
    show QgrowI _ a1 w kw mc h0 n0 _ T17.heap _
    rw [e17]
    exact ⟨rfl, N17, K24, ⟨E20, F18, F21, F22⟩, V23⟩
theorem pd__I__Ljava_lang_Object_ : parseMethodDescriptor "(I)[Ljava/lang/Object;" = some ⟨[.int], some (.array (.object "java/lang/Object"))⟩ := by decide +kernel
theorem d11_0 : decode jdk_38_method_7_code 0 = .ok (.aload_n 0, 1) := by decide +kernel
theorem d11_1 : decode jdk_38_method_7_code 1 = .ok (.aload_n 0, 1) := by decide +kernel
theorem d11_2 : decode jdk_38_method_7_code 2 = .ok (.getfield 48, 3) := by decide +kernel
theorem d11_5 : decode jdk_38_method_7_code 5 = .ok (.iconst 1, 1) := by decide +kernel
theorem d11_6 : decode jdk_38_method_7_code 6 = .ok (.iadd, 1) := by decide +kernel
theorem d11_7 : decode jdk_38_method_7_code 7 = .ok (.invokevirtual 69, 3) := by decide +kernel
theorem d11_10 : decode jdk_38_method_7_code 10 = .ok (.areturn, 1) := by decide +kernel
theorem pn_11 : plainName "java/util/ArrayList" = true := by first | (simp [plainName, overriddenIn]; done) | decide +kernel
theorem ef_grow (m : MethodId) (x0 : Addr) : entryFrame m #[(.ref x0)] 1 = mkF m 0 #[.val (.ref x0)] [] := by first | (simp [entryFrame, mkF, argsToLocals, Value.category]; done) | rfl
def Qgrow (Z : State) (a1 : Addr) (w : Addr) (kw : ClassId) (mc : Int32) (h0 : Heap) (n0 : Nat) (v : Option Value) (h : Heap) (L : List Loc) : Prop := v = some (.ref h0.size) ∧ Fr n0 L ∧ Keep h0 h [a1] ∧ own_AL Z h a1 (.ref h0.size) 0 mc ∧ own_ED Z h h0.size
set_option maxRecDepth 65536 in
set_option maxHeartbeats 40000000 in
theorem rm_grow (l : Launch) (Z : State) (a0 : Array Value) (hw : ∀ d ∈ tables_1, d.before a0 Z = true) (ws : List Jvm.Cond) (a1 : Addr) (w : Addr) (kw : ClassId) (mc : Int32) (h0 : Heap) (n0 : Nat) (Z0 : n0 ≤ h0.size) (S1 : own_AL Z h0 a1 (.ref w) 0 mc) (g_a1 : n0 ≤ a1) (S0 : Sta Z Z.heap "java/util/ArrayList" "DEFAULTCAPACITY_EMPTY_ELEMENTDATA" "[Ljava/lang/Object;" (.ref w)) (A0 : Arv Z Z.heap w kw (.object "java/lang/Object") 0 [] .null) (O0 : Old Z n0 h0) :
    MetFree l (⟨"java/util/ArrayList", "grow", "()[Ljava/lang/Object;"⟩ : MethodName) (head1 (Jvm.Cond.code (⟨"java/util/ArrayList", "grow", "()[Ljava/lang/Object;"⟩ : MethodName) jdk_38_method_7_code 1 (some (.array (.object "java/lang/Object"))) :: ws) ({ frames := 2, cells := 1, slots := 10, locals := 29 } : Room)) (fun a U => a = #[(.ref a1)] ∧ Z.Warmed39 U.vm ∧ U.heap = h0) (fun _ _ _ _ _ => True) (fun _ U o U' => ∃ v L, o = .returned v ∧ Qgrow Z a1 w kw mc h0 n0 v U'.heap L ∧ FrameEnd U o U' L ({ frames := 2, cells := 1, slots := 10, locals := 29 } : Room).cells ({ frames := 2, cells := 1, slots := 10, locals := 29 } : Room).slots) := by
  refine MetFree.of_bodySF (plainFor_of_name pn_11) hisR ?_
  intro p e s m args below meth c s₁ Bd hml0 hP hK
  obtain ⟨rfl, hZ, hh⟩ := hP
  have hx := Bd.exec
  have hby := Bd.bytes
  have hml : c.maxLocals = 1 := hml0
  have hown : s.vm.findClass "java/util/ArrayList" = some m.cls := findClass_of_methodNamed Bd.named
  have hnm := (name_of_methodNamed Bd.named Bd.method).1
  have X0 : Stand p l e ({ frames := 2, cells := 1, slots := 10, locals := 29 } : Room) s m #[(.ref a1)] below meth c s₁ [] 0 0 := Stand.of_body Bd
  have e0 : s₁.heap = h0 := by rw [← hh, Bd.state]; rfl
  have N0 := Fr.nil n0
  have k0 : ∀ t, Steps p.tables e below (s₁.setTop (mkF m 0 #[.val (.ref a1)] [])) t → Steps p.tables e below (s₁.setTop (entryFrame m #[(.ref a1)] 1)) t := fun t k => castTop (ef_grow m a1) k
  obtain ⟨E1, F1a, F1b, F1c⟩ := S1
  obtain ⟨T2, X2, e2, st2⟩ := getF X0 hx hZ hown (host := "") (Or.inl (hw _ (List.mem_of_getElem? (i := 59) rfl))) Via.refl e0 F1b (g := (mkF m 2 #[.val (.ref a1)] [(.ref a1), (.ref a1)])) rfl rfl (hb hby d11_2)
  have k3 : ∀ t, Steps p.tables e below (T2.setTop (mkF m 7 #[.val (.ref a1)] [(.int ((0 : Int32) + (1 : Int32))), (.ref a1)])) t → Steps p.tables e below (s₁.setTop (entryFrame m #[(.ref a1)] 1)) t := fun t k => k0 t (by
    show Steps p.tables e below (s₁.setTop (mkF m 0 #[.val (.ref a1)] [])) _
    refine XS.aloadN X0.here hx rfl (hb hby d11_0) rfl rfl ?_
    show Steps p.tables e below (s₁.setTop (mkF m 1 #[.val (.ref a1)] [(.ref a1)])) _
    refine XS.aloadN X0.here hx rfl (hb hby d11_1) rfl rfl ?_
    show Steps p.tables e below (s₁.setTop (mkF m 2 #[.val (.ref a1)] [(.ref a1), (.ref a1)])) _
    refine st2 _ ?_
    show Steps p.tables e below (T2.setTop (mkF m 5 #[.val (.ref a1)] [(.int (0 : Int32)), (.ref a1)])) _
    refine XS.iconst X2.here hx rfl (hb hby d11_5) ?_
    show Steps p.tables e below (T2.setTop (mkF m 6 #[.val (.ref a1)] [(.int (1 : Int32)), (.int (0 : Int32)), (.ref a1)])) _
    refine XS.iadd X2.here hx rfl (hb hby d11_6) rfl ?_
    exact k)
  have qk4 : ((0 : Int32) + (1 : Int32)) = (1 : Int32) := by decide
  have k4 : ∀ t, Steps p.tables e below (T2.setTop (mkF m 7 #[.val (.ref a1)] [(.int (1 : Int32)), (.ref a1)])) t → Steps p.tables e below (s₁.setTop (entryFrame m #[(.ref a1)] 1)) t := by rw [qk4] at k3; exact k3
  obtain ⟨cpv5, pv5, pv5'⟩ := E1.cell
  obtain ⟨_, _, ⟨T5, L5, kk5, n5⟩, -, X5, ⟨Lc5, hQ5, l5, y5, z5⟩, st5⟩ := X2.privateBack hx (y := (⟨"java/util/ArrayList", "grow", "(I)[Ljava/lang/Object;"⟩ : MethodName)) hown (mvT hZ (hw _ (List.mem_of_getElem? (i := 81) rfl))) (mvT hZ (hw _ (List.mem_of_getElem? (i := 82) rfl))) (mvT hZ (hw _ (List.mem_of_getElem? (i := 84) rfl))) (Cond.privateMethod_at (mvP hZ (hw _ (List.mem_of_getElem? (i := 83) rfl)) (args := #[]))) (mvT hZ (hw _ (List.mem_of_getElem? (i := 85) rfl))) (by decide) (backOf (W := 0) (rm_growI l Z a0 hw [] a1 w kw mc h0 n0 Z0 ⟨E1, F1a, F1b, F1c⟩ g_a1 S0 A0 O0) hZ (hw _ (List.mem_of_getElem? (i := 85) rfl)) (hw _ (List.mem_of_getElem? (i := 13) rfl)) (by decide) (by decide)) (g := (mkF m 7 #[.val (.ref a1)] [(.int (1 : Int32)), (.ref a1)])) rfl (by rw [hml]; rfl) (Steps.refl _) (a := a1) (by rw [e2]; exact pv5) pv5' (argsL := [(.int (1 : Int32))]) (rest := []) (lenOf pd__I__Ljava_lang_Object_ rfl) rfl (by show 2 * 0 + _ ≤ _; exact Nat.le_of_eq rfl) (hb hby d11_7) (fun _ _ => ⟨rfl, e2, (by decide : 0 + 1 ≤ _), (by decide : 0 + 10 ≤ _)⟩)
  dsimp only [Pt.U, Pt.locs, Pt.cells, Pt.slots] at X5 l5 y5 z5 st5 hQ5
  subst l5 y5 z5
  obtain ⟨rfl, N5q, Kg, Sg, Dg⟩ := hQ5
  have N5 := Fr.app N0 N5q
  have K6 : Keep h0 T5.heap [a1] := (Keep.refl h0 [a1]).trans Kg (allS (Or.inl (List.mem_of_getElem? (i := 0) rfl)) all0)
  have O7 : Old Z n0 T5.heap := O0.keep Kg (allS g_a1 all0)
  have E8 : Exa Z T5.heap a1 "java/util/ArrayList" := E1.keep Kg
  have k10 : ∀ t, Steps p.tables e below (T5.setTop (mkF m 10 #[.val (.ref a1)] [(.ref h0.size)])) t → Steps p.tables e below (s₁.setTop (entryFrame m #[(.ref a1)] 1)) t := fun t k => k4 t (by
    show Steps p.tables e below (T2.setTop (mkF m 7 #[.val (.ref a1)] [(.int (1 : Int32)), (.ref a1)])) _
    refine st5.trans ?_
    exact k)
  obtain ⟨fs, hr, hrun, hended, hW, hsame⟩ := X5.leave (v := some (.ref h0.size)) (fun h => by rw [Bd.returns] at h; cases h) (BodyLoose.notSynchronized Bd)
  refine ⟨_, _, k10 _ ?_, hrun, hended, _, _, rfl, ?_, ⟨_, rfl⟩, hW, hsame.mono (by decide) (by decide)⟩
  · show Steps p.tables e below (T5.setTop (mkF m 10 #[.val (.ref a1)] [(.ref h0.size)])) _
    exact X5.areturnOut hx rfl Bd.returns rfl (hb hby d11_10) hr
  ·
    show Qgrow _ a1 w kw mc h0 n0 _ T5.heap _
    exact ⟨rfl, N5, K6, Sg, Dg⟩
theorem pd____Ljava_lang_Object_ : parseMethodDescriptor "()[Ljava/lang/Object;" = some ⟨[], some (.array (.object "java/lang/Object"))⟩ := by decide +kernel
theorem d10_0 : decode jdk_38_method_24_code 0 = .ok (.iload_n 3, 1) := by decide +kernel
theorem d10_1 : decode jdk_38_method_24_code 1 = .ok (.aload_n 2, 1) := by decide +kernel
theorem d10_2 : decode jdk_38_method_24_code 2 = .ok (.arraylength, 1) := by decide +kernel
theorem d10_3 : decode jdk_38_method_24_code 3 = .ok (.if_icmp .ne 8, 3) := by decide +kernel
theorem d10_6 : decode jdk_38_method_24_code 6 = .ok (.aload_n 0, 1) := by decide +kernel
theorem d10_7 : decode jdk_38_method_24_code 7 = .ok (.invokevirtual 129, 3) := by decide +kernel
theorem d10_10 : decode jdk_38_method_24_code 10 = .ok (.astore_n 2, 1) := by decide +kernel
theorem d10_11 : decode jdk_38_method_24_code 11 = .ok (.aload_n 2, 1) := by decide +kernel
theorem d10_12 : decode jdk_38_method_24_code 12 = .ok (.iload_n 3, 1) := by decide +kernel
theorem d10_13 : decode jdk_38_method_24_code 13 = .ok (.aload_n 1, 1) := by decide +kernel
theorem d10_14 : decode jdk_38_method_24_code 14 = .ok (.aastore, 1) := by decide +kernel
theorem d10_15 : decode jdk_38_method_24_code 15 = .ok (.aload_n 0, 1) := by decide +kernel
theorem d10_16 : decode jdk_38_method_24_code 16 = .ok (.iload_n 3, 1) := by decide +kernel
theorem d10_17 : decode jdk_38_method_24_code 17 = .ok (.iconst 1, 1) := by decide +kernel
theorem d10_18 : decode jdk_38_method_24_code 18 = .ok (.iadd, 1) := by decide +kernel
theorem d10_19 : decode jdk_38_method_24_code 19 = .ok (.putfield 48, 3) := by decide +kernel
theorem d10_22 : decode jdk_38_method_24_code 22 = .ok (.return_, 1) := by decide +kernel
theorem pn_10 : plainName "java/util/ArrayList" = true := by first | (simp [plainName, overriddenIn]; done) | decide +kernel
theorem ef_add3a (m : MethodId) (x0 : Addr) (x1 : Addr) (x2 : Addr) (x3 : Int32) : entryFrame m #[(.ref x0), (.ref x1), (.ref x2), (.int x3)] 4 = mkF m 0 #[.val (.ref x0), .val (.ref x1), .val (.ref x2), .val (.int x3)] [] := by first | (simp [entryFrame, mkF, argsToLocals, Value.category]; done) | rfl
def Qadd3a (Z : State) (a1 : Addr) (a2 : Addr) (w : Addr) (kw : ClassId) (mc : Int32) (h0 : Heap) (n0 : Nat) (v : Option Value) (h : Heap) (L : List Loc) : Prop := v = none ∧ Fr n0 L ∧ Keep h0 h [a1] ∧ ∃ ed : Addr, h0.size ≤ ed ∧ own_AL Z h a1 (.ref ed) 1 mc ∧ own_ED Z h ed
set_option maxRecDepth 65536 in
set_option maxHeartbeats 40000000 in
theorem rm_add3a (l : Launch) (Z : State) (a0 : Array Value) (hw : ∀ d ∈ tables_1, d.before a0 Z = true) (ws : List Jvm.Cond) (a1 : Addr) (a2 : Addr) (w : Addr) (kw : ClassId) (mc : Int32) (h0 : Heap) (n0 : Nat) (Z0 : n0 ≤ h0.size) (S1 : own_AL Z h0 a1 (.ref w) 0 mc) (g_a1 : n0 ≤ a1) (S0 : Sta Z Z.heap "java/util/ArrayList" "DEFAULTCAPACITY_EMPTY_ELEMENTDATA" "[Ljava/lang/Object;" (.ref w)) (A0 : Arv Z Z.heap w kw (.object "java/lang/Object") 0 [] .null) (O0 : Old Z n0 h0) (E_a2 : Exa Z h0 a2 "[B") (n12 : a1 ≠ a2) :
    MetFree l (⟨"java/util/ArrayList", "add", "(Ljava/lang/Object;[Ljava/lang/Object;I)V"⟩ : MethodName) (head1 (Jvm.Cond.code (⟨"java/util/ArrayList", "add", "(Ljava/lang/Object;[Ljava/lang/Object;I)V"⟩ : MethodName) jdk_38_method_24_code 4 none :: ws) ({ frames := 3, cells := 1, slots := 10, locals := 41 } : Room)) (fun a U => a = #[(.ref a1), (.ref a2), (.ref w), (.int (0 : Int32))] ∧ Z.Warmed39 U.vm ∧ U.heap = h0) (fun _ _ _ _ _ => True) (fun _ U o U' => ∃ v L, o = .returned v ∧ Qadd3a Z a1 a2 w kw mc h0 n0 v U'.heap L ∧ FrameEnd U o U' L ({ frames := 3, cells := 1, slots := 10, locals := 41 } : Room).cells ({ frames := 3, cells := 1, slots := 10, locals := 41 } : Room).slots) := by
  refine MetFree.of_bodySF (plainFor_of_name pn_10) hisR ?_
  intro p e s m args below meth c s₁ Bd hml0 hP hK
  obtain ⟨rfl, hZ, hh⟩ := hP
  have hx := Bd.exec
  have hby := Bd.bytes
  have hml : c.maxLocals = 4 := hml0
  have hown : s.vm.findClass "java/util/ArrayList" = some m.cls := findClass_of_methodNamed Bd.named
  have hnm := (name_of_methodNamed Bd.named Bd.method).1
  have X0 : Stand p l e ({ frames := 3, cells := 1, slots := 10, locals := 41 } : Room) s m #[(.ref a1), (.ref a2), (.ref w), (.int (0 : Int32))] below meth c s₁ [] 0 0 := Stand.of_body Bd
  have e0 : s₁.heap = h0 := by rw [← hh, Bd.state]; rfl
  have N0 := Fr.nil n0
  have k0 : ∀ t, Steps p.tables e below (s₁.setTop (mkF m 0 #[.val (.ref a1), .val (.ref a2), .val (.ref w), .val (.int (0 : Int32))] [])) t → Steps p.tables e below (s₁.setTop (entryFrame m #[(.ref a1), (.ref a2), (.ref w), (.int (0 : Int32))] 4)) t := fun t k => castTop (ef_add3a m a1 a2 w (0 : Int32)) k
  obtain ⟨E1, F1a, F1b, F1c⟩ := S1
  obtain ⟨cpv2, pv2, pv2'⟩ := E1.cell
  obtain ⟨_, _, ⟨T2, L2, kk2, n2⟩, -, X2, ⟨Lc2, hQ2, l2, y2, z2⟩, st2⟩ := X0.privateBack hx (y := (⟨"java/util/ArrayList", "grow", "()[Ljava/lang/Object;"⟩ : MethodName)) hown (mvT hZ (hw _ (List.mem_of_getElem? (i := 76) rfl))) (mvT hZ (hw _ (List.mem_of_getElem? (i := 77) rfl))) (mvT hZ (hw _ (List.mem_of_getElem? (i := 79) rfl))) (Cond.privateMethod_at (mvP hZ (hw _ (List.mem_of_getElem? (i := 78) rfl)) (args := #[]))) (mvT hZ (hw _ (List.mem_of_getElem? (i := 80) rfl))) (by decide) (backOf (W := 0) (rm_grow l Z a0 hw [] a1 w kw mc h0 n0 Z0 ⟨E1, F1a, F1b, F1c⟩ g_a1 S0 A0 O0) hZ (hw _ (List.mem_of_getElem? (i := 80) rfl)) (hw _ (List.mem_of_getElem? (i := 13) rfl)) (by decide) (by decide)) (g := (mkF m 7 #[.val (.ref a1), .val (.ref a2), .val (.ref w), .val (.int (0 : Int32))] [(.ref a1)])) rfl (by rw [hml]; rfl) (Steps.refl _) (a := a1) (by rw [e0]; exact pv2) pv2' (argsL := []) (rest := []) (lenOf pd____Ljava_lang_Object_ rfl) rfl (by show 2 * 0 + _ ≤ _; exact Nat.le_of_eq rfl) (hb hby d10_7) (fun _ _ => ⟨rfl, e0, (by decide : 0 + 1 ≤ _), (by decide : 0 + 10 ≤ _)⟩)
  dsimp only [Pt.U, Pt.locs, Pt.cells, Pt.slots] at X2 l2 y2 z2 st2 hQ2
  subst l2 y2 z2
  obtain ⟨rfl, N2q, Kg, Sg, Dg⟩ := hQ2
  have N2 := Fr.app N0 N2q
  have K3 : Keep h0 T2.heap [a1] := (Keep.refl h0 [a1]).trans Kg (allS (Or.inl (List.mem_of_getElem? (i := 0) rfl)) all0)
  have O4 : Old Z n0 T2.heap := O0.keep Kg (allS g_a1 all0)
  have E5 : Exa Z T2.heap a2 "[B" := E_a2.keep Kg
  have E6 : Exa Z T2.heap a1 "java/util/ArrayList" := E1.keep Kg
  have k7 : ∀ t, Steps p.tables e below (T2.setTop (mkF m 10 #[.val (.ref a1), .val (.ref a2), .val (.ref w), .val (.int (0 : Int32))] [(.ref h0.size)])) t → Steps p.tables e below (s₁.setTop (entryFrame m #[(.ref a1), (.ref a2), (.ref w), (.int (0 : Int32))] 4)) t := fun t k => k0 t (by
    show Steps p.tables e below (s₁.setTop (mkF m 0 #[.val (.ref a1), .val (.ref a2), .val (.ref w), .val (.int (0 : Int32))] [])) _
    refine XS.iloadN X0.here hx rfl (hb hby d10_0) rfl ?_
    show Steps p.tables e below (s₁.setTop (mkF m 1 #[.val (.ref a1), .val (.ref a2), .val (.ref w), .val (.int (0 : Int32))] [(.int (0 : Int32))])) _
    refine XS.aloadN X0.here hx rfl (hb hby d10_1) rfl rfl ?_
    show Steps p.tables e below (s₁.setTop (mkF m 2 #[.val (.ref a1), .val (.ref a2), .val (.ref w), .val (.int (0 : Int32))] [(.ref w), (.int (0 : Int32))])) _
    refine own_len X0 hx hZ e0 (A0.ext O0.2) (g := (mkF m 2 #[.val (.ref a1), .val (.ref a2), .val (.ref w), .val (.int (0 : Int32))] [(.ref w), (.int (0 : Int32))])) rfl rfl (hb hby d10_2) _ ?_
    show Steps p.tables e below (s₁.setTop (mkF m 3 #[.val (.ref a1), .val (.ref a2), .val (.ref w), .val (.int (0 : Int32))] [(.int (0 : Int32)), (.int (0 : Int32))])) _
    refine XS.icmpNo X0.here hx rfl (hb hby d10_3) rfl (teq rfl).2 ?_
    show Steps p.tables e below (s₁.setTop (mkF m 6 #[.val (.ref a1), .val (.ref a2), .val (.ref w), .val (.int (0 : Int32))] [])) _
    refine XS.aloadN X0.here hx rfl (hb hby d10_6) rfl rfl ?_
    show Steps p.tables e below (s₁.setTop (mkF m 7 #[.val (.ref a1), .val (.ref a2), .val (.ref w), .val (.int (0 : Int32))] [(.ref a1)])) _
    refine st2.trans ?_
    exact k)
  obtain ⟨ed, hd_ed⟩ : ∃ z : Addr, z = h0.size := ⟨_, rfl⟩
  have k8 : ∀ t, Steps p.tables e below (T2.setTop (mkF m 10 #[.val (.ref a1), .val (.ref a2), .val (.ref w), .val (.int (0 : Int32))] [(.ref ed)])) t → Steps p.tables e below (s₁.setTop (entryFrame m #[(.ref a1), (.ref a2), (.ref w), (.int (0 : Int32))] 4)) t := by rw [hd_ed]; exact k7
  rw [← hd_ed] at Sg Dg
  have sz_ed : h0.size ≤ ed := by rw [hd_ed]; exact (Keep.refl h0 [a1]).1
  have g_ed : n0 ≤ ed := Nat.le_trans Z0 sz_ed
  have ne9 : a2 ≠ ed := by rw [hd_ed]; exact Nat.ne_of_lt E_a2.lt
  have ne10 : a1 ≠ ed := by rw [hd_ed]; exact Nat.ne_of_lt E1.lt
  obtain ⟨E11, F11a, F11b, F11c⟩ := Sg
  have V12 : own_ED Z T2.heap ed := Dg
  obtain ⟨cl13, Ar13, Sz13, Ov13⟩ := id V12
  have hin13 : ¬ ((0 : Int32) < 0 ∨ cl13.slots.size ≤ ((0 : Int32)).toNatClampNeg) := by rw [Sz13]; decide
  have In13 := Ins.of_exa E5 (hw _ (List.mem_of_getElem? (i := 92) rfl))
  obtain ⟨T13, h13, X13, e13, W13, st13⟩ := stR X2 hx hZ rfl Ar13 (j := (0 : Int32)) hin13 rfl (Sto.of Ar13 Ov13 In13) (g := (mkF m 14 #[.val (.ref a1), .val (.ref a2), .val (.ref ed), .val (.int (0 : Int32))] [(.ref a2), (.int (0 : Int32)), (.ref ed)])) rfl rfl (hb hby d10_14)
  have N13 := Fr.snoc X13 N2 g_ed
  have V14 : own_ED Z h13 ed := V12.same W13
  have O15 : Old Z n0 h13 := O4.wr W13 g_ed
  have E16 : Exa Z h13 a2 "[B" := E5.wr W13
  have E17 : Exa Z h13 a1 "java/util/ArrayList" := E11.wr W13
  have F18 : Fld Z h13 a1 "java/util/ArrayList" "elementData" "[Ljava/lang/Object;" (.ref ed) := F11a.other W13 (Or.inl ne10)
  have F19 : Fld Z h13 a1 "java/util/ArrayList" "size" "I" (.int (0 : Int32)) := F11b.other W13 (Or.inl ne10)
  have F20 : Fld Z h13 a1 "java/util/AbstractList" "modCount" "I" (.int mc) := F11c.other W13 (Or.inl ne10)
  have K21 : Keep h0 h13 [a1] := K3.wr W13 (Or.inr sz_ed)
  have k22 : ∀ t, Steps p.tables e below (T13.setTop (mkF m 19 #[.val (.ref a1), .val (.ref a2), .val (.ref ed), .val (.int (0 : Int32))] [(.int ((0 : Int32) + (1 : Int32))), (.ref a1)])) t → Steps p.tables e below (s₁.setTop (entryFrame m #[(.ref a1), (.ref a2), (.ref w), (.int (0 : Int32))] 4)) t := fun t k => k8 t (by
    show Steps p.tables e below (T2.setTop (mkF m 10 #[.val (.ref a1), .val (.ref a2), .val (.ref w), .val (.int (0 : Int32))] [(.ref ed)])) _
    refine XS.astoreN X2.here hx rfl (hb hby d10_10) rfl rfl (l' := #[.val (.ref a1), .val (.ref a2), .val (.ref ed), .val (.int (0 : Int32))]) rfl ?_
    show Steps p.tables e below (T2.setTop (mkF m 11 #[.val (.ref a1), .val (.ref a2), .val (.ref ed), .val (.int (0 : Int32))] [])) _
    refine XS.aloadN X2.here hx rfl (hb hby d10_11) rfl rfl ?_
    show Steps p.tables e below (T2.setTop (mkF m 12 #[.val (.ref a1), .val (.ref a2), .val (.ref ed), .val (.int (0 : Int32))] [(.ref ed)])) _
    refine XS.iloadN X2.here hx rfl (hb hby d10_12) rfl ?_
    show Steps p.tables e below (T2.setTop (mkF m 13 #[.val (.ref a1), .val (.ref a2), .val (.ref ed), .val (.int (0 : Int32))] [(.int (0 : Int32)), (.ref ed)])) _
    refine XS.aloadN X2.here hx rfl (hb hby d10_13) rfl rfl ?_
    show Steps p.tables e below (T2.setTop (mkF m 14 #[.val (.ref a1), .val (.ref a2), .val (.ref ed), .val (.int (0 : Int32))] [(.ref a2), (.int (0 : Int32)), (.ref ed)])) _
    refine st13 _ ?_
    show Steps p.tables e below (T13.setTop (mkF m 15 #[.val (.ref a1), .val (.ref a2), .val (.ref ed), .val (.int (0 : Int32))] [])) _
    refine XS.aloadN X13.here hx rfl (hb hby d10_15) rfl rfl ?_
    show Steps p.tables e below (T13.setTop (mkF m 16 #[.val (.ref a1), .val (.ref a2), .val (.ref ed), .val (.int (0 : Int32))] [(.ref a1)])) _
    refine XS.iloadN X13.here hx rfl (hb hby d10_16) rfl ?_
    show Steps p.tables e below (T13.setTop (mkF m 17 #[.val (.ref a1), .val (.ref a2), .val (.ref ed), .val (.int (0 : Int32))] [(.int (0 : Int32)), (.ref a1)])) _
    refine XS.iconst X13.here hx rfl (hb hby d10_17) ?_
    show Steps p.tables e below (T13.setTop (mkF m 18 #[.val (.ref a1), .val (.ref a2), .val (.ref ed), .val (.int (0 : Int32))] [(.int (1 : Int32)), (.int (0 : Int32)), (.ref a1)])) _
    refine XS.iadd X13.here hx rfl (hb hby d10_18) rfl ?_
    exact k)
  have qk23 : ((0 : Int32) + (1 : Int32)) = (1 : Int32) := by decide
  have k23 : ∀ t, Steps p.tables e below (T13.setTop (mkF m 19 #[.val (.ref a1), .val (.ref a2), .val (.ref ed), .val (.int (0 : Int32))] [(.int (1 : Int32)), (.ref a1)])) t → Steps p.tables e below (s₁.setTop (entryFrame m #[(.ref a1), (.ref a2), (.ref w), (.int (0 : Int32))] 4)) t := by rw [qk23] at k22; exact k22
  obtain ⟨T24, h24, X24, e24, W24, st24⟩ := putF X13 hx hZ hown (host := "") (Or.inl (hw _ (List.mem_of_getElem? (i := 59) rfl))) Via.refl e13 F19 E17 (Or.inl (hw _ (List.mem_of_getElem? (i := 60) rfl))) (hw _ (List.mem_of_getElem? (i := 12) rfl)) (ty := .int) (by decide) rfl rfl (g := (mkF m 19 #[.val (.ref a1), .val (.ref a2), .val (.ref ed), .val (.int (0 : Int32))] [(.int (1 : Int32)), (.ref a1)])) rfl rfl (hb hby d10_19)
  have N24 := Fr.snoc X24 N13 g_a1
  have F25 : Fld Z h24 a1 "java/util/ArrayList" "size" "I" (.int (1 : Int32)) := F19.same W24
  have O26 : Old Z n0 h24 := O15.wr W24 g_a1
  have E27 : Exa Z h24 a2 "[B" := E16.wr W24
  have E28 : Exa Z h24 a1 "java/util/ArrayList" := E17.wr W24
  have F29 : Fld Z h24 a1 "java/util/ArrayList" "elementData" "[Ljava/lang/Object;" (.ref ed) := F18.other W24 (Or.inr (slot_ne (Or.inl (hw _ (List.mem_of_getElem? (i := 34) rfl))) (Or.inl (hw _ (List.mem_of_getElem? (i := 60) rfl))) (by decide) (t := (.array (.object "java/lang/Object"))) (t' := .int) (by decide) (by decide)))
  have F30 : Fld Z h24 a1 "java/util/AbstractList" "modCount" "I" (.int mc) := F20.other W24 (Or.inr (slot_ne (Or.inl (hw _ (List.mem_of_getElem? (i := 31) rfl))) (Or.inl (hw _ (List.mem_of_getElem? (i := 60) rfl))) (by decide) (t := .int) (t' := .int) (by decide) (by decide)))
  have V31 : own_ED Z h24 ed := V14.other W24 (Ne.symm ne10)
  have K32 : Keep h0 h24 [a1] := K21.wr W24 (Or.inl (List.mem_of_getElem? (i := 0) rfl))
  have k34 : ∀ t, Steps p.tables e below (T24.setTop (mkF m 22 #[.val (.ref a1), .val (.ref a2), .val (.ref ed), .val (.int (0 : Int32))] [])) t → Steps p.tables e below (s₁.setTop (entryFrame m #[(.ref a1), (.ref a2), (.ref w), (.int (0 : Int32))] 4)) t := fun t k => k23 t (by
    show Steps p.tables e below (T13.setTop (mkF m 19 #[.val (.ref a1), .val (.ref a2), .val (.ref ed), .val (.int (0 : Int32))] [(.int (1 : Int32)), (.ref a1)])) _
    refine st24 _ ?_
    exact k)
  obtain ⟨fs, hr, hrun, hended, hW, hsame⟩ := X24.leave (v := none) (fun _ => rfl) (BodyLoose.notSynchronized Bd)
  refine ⟨_, _, k34 _ ?_, hrun, hended, _, _, rfl, ?_, ⟨_, rfl⟩, hW, hsame.mono (by decide) (by decide)⟩
  · show Steps p.tables e below (T24.setTop (mkF m 22 #[.val (.ref a1), .val (.ref a2), .val (.ref ed), .val (.int (0 : Int32))] [])) _
    exact X24.returnOut hx Bd.returns (hb hby d10_22) hr
  ·
    show Qadd3a _ a1 a2 w kw mc h0 n0 _ T24.heap _
    rw [e24]
    exact ⟨rfl, N24, K32, ed, sz_ed, ⟨E28, F29, F25, F30⟩, V31⟩
theorem ef_add3n1 (m : MethodId) (x0 : Addr) (x1 : Addr) (x2 : Addr) (x3 : Int32) : entryFrame m #[(.ref x0), (.ref x1), (.ref x2), (.int x3)] 4 = mkF m 0 #[.val (.ref x0), .val (.ref x1), .val (.ref x2), .val (.int x3)] [] := by first | (simp [entryFrame, mkF, argsToLocals, Value.category]; done) | rfl
def Qadd3n1 (Z : State) (a1 : Addr) (a2 : Addr) (ed : Addr) (mc : Int32) (h0 : Heap) (n0 : Nat) (v : Option Value) (h : Heap) (L : List Loc) : Prop := v = none ∧ Fr n0 L ∧ Keep h0 h [a1, ed] ∧ own_AL Z h a1 (.ref ed) 2 mc ∧ own_ED Z h ed
set_option maxRecDepth 65536 in
set_option maxHeartbeats 40000000 in
theorem rm_add3n1 (l : Launch) (Z : State) (a0 : Array Value) (hw : ∀ d ∈ tables_1, d.before a0 Z = true) (ws : List Jvm.Cond) (a1 : Addr) (a2 : Addr) (ed : Addr) (mc : Int32) (h0 : Heap) (n0 : Nat) (Z0 : n0 ≤ h0.size) (S1 : own_AL Z h0 a1 (.ref ed) 1 mc) (D1 : own_ED Z h0 ed) (g_a1 : n0 ≤ a1) (g_ed : n0 ≤ ed) (n1e : a1 ≠ ed) (E_a2 : Exa Z h0 a2 "[B") :
    MetFree l (⟨"java/util/ArrayList", "add", "(Ljava/lang/Object;[Ljava/lang/Object;I)V"⟩ : MethodName) (head1 (Jvm.Cond.code (⟨"java/util/ArrayList", "add", "(Ljava/lang/Object;[Ljava/lang/Object;I)V"⟩ : MethodName) jdk_38_method_24_code 4 none :: ws) ({ frames := 0, cells := 0, slots := 0, locals := 0 } : Room)) (fun a U => a = #[(.ref a1), (.ref a2), (.ref ed), (.int (1 : Int32))] ∧ Z.Warmed39 U.vm ∧ U.heap = h0) (fun _ _ _ _ _ => True) (fun _ U o U' => ∃ v L, o = .returned v ∧ Qadd3n1 Z a1 a2 ed mc h0 n0 v U'.heap L ∧ FrameEnd U o U' L ({ frames := 0, cells := 0, slots := 0, locals := 0 } : Room).cells ({ frames := 0, cells := 0, slots := 0, locals := 0 } : Room).slots) := by
  refine MetFree.of_bodySF (plainFor_of_name pn_10) hisR ?_
  intro p e s m args below meth c s₁ Bd hml0 hP hK
  obtain ⟨rfl, hZ, hh⟩ := hP
  have hx := Bd.exec
  have hby := Bd.bytes
  have hml : c.maxLocals = 4 := hml0
  have hown : s.vm.findClass "java/util/ArrayList" = some m.cls := findClass_of_methodNamed Bd.named
  have hnm := (name_of_methodNamed Bd.named Bd.method).1
  have X0 : Stand p l e ({ frames := 0, cells := 0, slots := 0, locals := 0 } : Room) s m #[(.ref a1), (.ref a2), (.ref ed), (.int (1 : Int32))] below meth c s₁ [] 0 0 := Stand.of_body Bd
  have e0 : s₁.heap = h0 := by rw [← hh, Bd.state]; rfl
  have N0 := Fr.nil n0
  have k0 : ∀ t, Steps p.tables e below (s₁.setTop (mkF m 0 #[.val (.ref a1), .val (.ref a2), .val (.ref ed), .val (.int (1 : Int32))] [])) t → Steps p.tables e below (s₁.setTop (entryFrame m #[(.ref a1), (.ref a2), (.ref ed), (.int (1 : Int32))] 4)) t := fun t k => castTop (ef_add3n1 m a1 a2 ed (1 : Int32)) k
  obtain ⟨E1, F1a, F1b, F1c⟩ := S1
  obtain ⟨cz, Az, Sz0, -⟩ := id D1
  obtain ⟨cl2, Ar2, Sz2, Ov2⟩ := id D1
  have hin2 : ¬ ((1 : Int32) < 0 ∨ cl2.slots.size ≤ ((1 : Int32)).toNatClampNeg) := by rw [Sz2]; decide
  have In2 := Ins.of_exa E_a2 (hw _ (List.mem_of_getElem? (i := 92) rfl))
  obtain ⟨T2, h2, X2, e2, W2, st2⟩ := stR X0 hx hZ e0 Ar2 (j := (1 : Int32)) hin2 rfl (Sto.of Ar2 Ov2 In2) (g := (mkF m 14 #[.val (.ref a1), .val (.ref a2), .val (.ref ed), .val (.int (1 : Int32))] [(.ref a2), (.int (1 : Int32)), (.ref ed)])) rfl rfl (hb hby d10_14)
  have N2 := Fr.snoc X2 N0 g_ed
  have V3 : own_ED Z h2 ed := D1.same W2
  have E4 : Exa Z h2 a2 "[B" := E_a2.wr W2
  have E5 : Exa Z h2 a1 "java/util/ArrayList" := E1.wr W2
  have F6 : Fld Z h2 a1 "java/util/ArrayList" "elementData" "[Ljava/lang/Object;" (.ref ed) := F1a.other W2 (Or.inl n1e)
  have F7 : Fld Z h2 a1 "java/util/ArrayList" "size" "I" (.int (1 : Int32)) := F1b.other W2 (Or.inl n1e)
  have F8 : Fld Z h2 a1 "java/util/AbstractList" "modCount" "I" (.int mc) := F1c.other W2 (Or.inl n1e)
  have K9 : Keep h0 h2 [a1, ed] := (Keep.refl h0 [a1, ed]).wr W2 (Or.inl (List.mem_of_getElem? (i := 1) rfl))
  have k10 : ∀ t, Steps p.tables e below (T2.setTop (mkF m 19 #[.val (.ref a1), .val (.ref a2), .val (.ref ed), .val (.int (1 : Int32))] [(.int ((1 : Int32) + (1 : Int32))), (.ref a1)])) t → Steps p.tables e below (s₁.setTop (entryFrame m #[(.ref a1), (.ref a2), (.ref ed), (.int (1 : Int32))] 4)) t := fun t k => k0 t (by
    show Steps p.tables e below (s₁.setTop (mkF m 0 #[.val (.ref a1), .val (.ref a2), .val (.ref ed), .val (.int (1 : Int32))] [])) _
    refine XS.iloadN X0.here hx rfl (hb hby d10_0) rfl ?_
    show Steps p.tables e below (s₁.setTop (mkF m 1 #[.val (.ref a1), .val (.ref a2), .val (.ref ed), .val (.int (1 : Int32))] [(.int (1 : Int32))])) _
    refine XS.aloadN X0.here hx rfl (hb hby d10_1) rfl rfl ?_
    show Steps p.tables e below (s₁.setTop (mkF m 2 #[.val (.ref a1), .val (.ref a2), .val (.ref ed), .val (.int (1 : Int32))] [(.ref ed), (.int (1 : Int32))])) _
    refine X0.arraylength hx (by rw [e0]; exact Az.1) (State.isArrayOf_alike hZ.alike Az.2.1) (g := (mkF m 2 #[.val (.ref a1), .val (.ref a2), .val (.ref ed), .val (.int (1 : Int32))] [(.ref ed), (.int (1 : Int32))])) rfl rfl (hb hby d10_2) _ ?_
    rw [show cz.slots.size.toInt32 = (10 : Int32) by rw [Sz0]; rfl]
    show Steps p.tables e below (s₁.setTop (mkF m 3 #[.val (.ref a1), .val (.ref a2), .val (.ref ed), .val (.int (1 : Int32))] [(.int (10 : Int32)), (.int (1 : Int32))])) _
    refine XS.icmpYes X0.here hx rfl (pc0 := 3) (pc' := 11) rfl (hb hby d10_3) rfl (feq (by decide)).2 (by decide) (by decide) ?_
    show Steps p.tables e below (s₁.setTop (mkF m 11 #[.val (.ref a1), .val (.ref a2), .val (.ref ed), .val (.int (1 : Int32))] [])) _
    refine XS.aloadN X0.here hx rfl (hb hby d10_11) rfl rfl ?_
    show Steps p.tables e below (s₁.setTop (mkF m 12 #[.val (.ref a1), .val (.ref a2), .val (.ref ed), .val (.int (1 : Int32))] [(.ref ed)])) _
    refine XS.iloadN X0.here hx rfl (hb hby d10_12) rfl ?_
    show Steps p.tables e below (s₁.setTop (mkF m 13 #[.val (.ref a1), .val (.ref a2), .val (.ref ed), .val (.int (1 : Int32))] [(.int (1 : Int32)), (.ref ed)])) _
    refine XS.aloadN X0.here hx rfl (hb hby d10_13) rfl rfl ?_
    show Steps p.tables e below (s₁.setTop (mkF m 14 #[.val (.ref a1), .val (.ref a2), .val (.ref ed), .val (.int (1 : Int32))] [(.ref a2), (.int (1 : Int32)), (.ref ed)])) _
    refine st2 _ ?_
    show Steps p.tables e below (T2.setTop (mkF m 15 #[.val (.ref a1), .val (.ref a2), .val (.ref ed), .val (.int (1 : Int32))] [])) _
    refine XS.aloadN X2.here hx rfl (hb hby d10_15) rfl rfl ?_
    show Steps p.tables e below (T2.setTop (mkF m 16 #[.val (.ref a1), .val (.ref a2), .val (.ref ed), .val (.int (1 : Int32))] [(.ref a1)])) _
    refine XS.iloadN X2.here hx rfl (hb hby d10_16) rfl ?_
    show Steps p.tables e below (T2.setTop (mkF m 17 #[.val (.ref a1), .val (.ref a2), .val (.ref ed), .val (.int (1 : Int32))] [(.int (1 : Int32)), (.ref a1)])) _
    refine XS.iconst X2.here hx rfl (hb hby d10_17) ?_
    show Steps p.tables e below (T2.setTop (mkF m 18 #[.val (.ref a1), .val (.ref a2), .val (.ref ed), .val (.int (1 : Int32))] [(.int (1 : Int32)), (.int (1 : Int32)), (.ref a1)])) _
    refine XS.iadd X2.here hx rfl (hb hby d10_18) rfl ?_
    exact k)
  have qk11 : ((1 : Int32) + (1 : Int32)) = (2 : Int32) := by decide
  have k11 : ∀ t, Steps p.tables e below (T2.setTop (mkF m 19 #[.val (.ref a1), .val (.ref a2), .val (.ref ed), .val (.int (1 : Int32))] [(.int (2 : Int32)), (.ref a1)])) t → Steps p.tables e below (s₁.setTop (entryFrame m #[(.ref a1), (.ref a2), (.ref ed), (.int (1 : Int32))] 4)) t := by rw [qk11] at k10; exact k10
  obtain ⟨T12, h12, X12, e12, W12, st12⟩ := putF X2 hx hZ hown (host := "") (Or.inl (hw _ (List.mem_of_getElem? (i := 59) rfl))) Via.refl e2 F7 E5 (Or.inl (hw _ (List.mem_of_getElem? (i := 60) rfl))) (hw _ (List.mem_of_getElem? (i := 12) rfl)) (ty := .int) (by decide) rfl rfl (g := (mkF m 19 #[.val (.ref a1), .val (.ref a2), .val (.ref ed), .val (.int (1 : Int32))] [(.int (2 : Int32)), (.ref a1)])) rfl rfl (hb hby d10_19)
  have N12 := Fr.snoc X12 N2 g_a1
  have F13 : Fld Z h12 a1 "java/util/ArrayList" "size" "I" (.int (2 : Int32)) := F7.same W12
  have E14 : Exa Z h12 a2 "[B" := E4.wr W12
  have E15 : Exa Z h12 a1 "java/util/ArrayList" := E5.wr W12
  have F16 : Fld Z h12 a1 "java/util/ArrayList" "elementData" "[Ljava/lang/Object;" (.ref ed) := F6.other W12 (Or.inr (slot_ne (Or.inl (hw _ (List.mem_of_getElem? (i := 34) rfl))) (Or.inl (hw _ (List.mem_of_getElem? (i := 60) rfl))) (by decide) (t := (.array (.object "java/lang/Object"))) (t' := .int) (by decide) (by decide)))
  have F17 : Fld Z h12 a1 "java/util/AbstractList" "modCount" "I" (.int mc) := F8.other W12 (Or.inr (slot_ne (Or.inl (hw _ (List.mem_of_getElem? (i := 31) rfl))) (Or.inl (hw _ (List.mem_of_getElem? (i := 60) rfl))) (by decide) (t := .int) (t' := .int) (by decide) (by decide)))
  have V18 : own_ED Z h12 ed := V3.other W12 (Ne.symm n1e)
  have K19 : Keep h0 h12 [a1, ed] := K9.wr W12 (Or.inl (List.mem_of_getElem? (i := 0) rfl))
  have k21 : ∀ t, Steps p.tables e below (T12.setTop (mkF m 22 #[.val (.ref a1), .val (.ref a2), .val (.ref ed), .val (.int (1 : Int32))] [])) t → Steps p.tables e below (s₁.setTop (entryFrame m #[(.ref a1), (.ref a2), (.ref ed), (.int (1 : Int32))] 4)) t := fun t k => k11 t (by
    show Steps p.tables e below (T2.setTop (mkF m 19 #[.val (.ref a1), .val (.ref a2), .val (.ref ed), .val (.int (1 : Int32))] [(.int (2 : Int32)), (.ref a1)])) _
    refine st12 _ ?_
    exact k)
  obtain ⟨fs, hr, hrun, hended, hW, hsame⟩ := X12.leave (v := none) (fun _ => rfl) (BodyLoose.notSynchronized Bd)
  refine ⟨_, _, k21 _ ?_, hrun, hended, _, _, rfl, ?_, ⟨_, rfl⟩, hW, hsame.mono (by decide) (by decide)⟩
  · show Steps p.tables e below (T12.setTop (mkF m 22 #[.val (.ref a1), .val (.ref a2), .val (.ref ed), .val (.int (1 : Int32))] [])) _
    exact X12.returnOut hx Bd.returns (hb hby d10_22) hr
  ·
    show Qadd3n1 _ a1 a2 ed mc h0 n0 _ T12.heap _
    rw [e12]
    exact ⟨rfl, N12, K19, ⟨E15, F16, F13, F17⟩, V18⟩
theorem ef_add3n2 (m : MethodId) (x0 : Addr) (x1 : Addr) (x2 : Addr) (x3 : Int32) : entryFrame m #[(.ref x0), (.ref x1), (.ref x2), (.int x3)] 4 = mkF m 0 #[.val (.ref x0), .val (.ref x1), .val (.ref x2), .val (.int x3)] [] := by first | (simp [entryFrame, mkF, argsToLocals, Value.category]; done) | rfl
def Qadd3n2 (Z : State) (a1 : Addr) (a2 : Addr) (ed : Addr) (mc : Int32) (h0 : Heap) (n0 : Nat) (v : Option Value) (h : Heap) (L : List Loc) : Prop := v = none ∧ Fr n0 L ∧ Keep h0 h [a1, ed] ∧ own_AL Z h a1 (.ref ed) 3 mc ∧ own_ED Z h ed
set_option maxRecDepth 65536 in
set_option maxHeartbeats 40000000 in
theorem rm_add3n2 (l : Launch) (Z : State) (a0 : Array Value) (hw : ∀ d ∈ tables_1, d.before a0 Z = true) (ws : List Jvm.Cond) (a1 : Addr) (a2 : Addr) (ed : Addr) (mc : Int32) (h0 : Heap) (n0 : Nat) (Z0 : n0 ≤ h0.size) (S1 : own_AL Z h0 a1 (.ref ed) 2 mc) (D1 : own_ED Z h0 ed) (g_a1 : n0 ≤ a1) (g_ed : n0 ≤ ed) (n1e : a1 ≠ ed) (E_a2 : Exa Z h0 a2 "[B") :
    MetFree l (⟨"java/util/ArrayList", "add", "(Ljava/lang/Object;[Ljava/lang/Object;I)V"⟩ : MethodName) (head1 (Jvm.Cond.code (⟨"java/util/ArrayList", "add", "(Ljava/lang/Object;[Ljava/lang/Object;I)V"⟩ : MethodName) jdk_38_method_24_code 4 none :: ws) ({ frames := 0, cells := 0, slots := 0, locals := 0 } : Room)) (fun a U => a = #[(.ref a1), (.ref a2), (.ref ed), (.int (2 : Int32))] ∧ Z.Warmed39 U.vm ∧ U.heap = h0) (fun _ _ _ _ _ => True) (fun _ U o U' => ∃ v L, o = .returned v ∧ Qadd3n2 Z a1 a2 ed mc h0 n0 v U'.heap L ∧ FrameEnd U o U' L ({ frames := 0, cells := 0, slots := 0, locals := 0 } : Room).cells ({ frames := 0, cells := 0, slots := 0, locals := 0 } : Room).slots) := by
  refine MetFree.of_bodySF (plainFor_of_name pn_10) hisR ?_
  intro p e s m args below meth c s₁ Bd hml0 hP hK
  obtain ⟨rfl, hZ, hh⟩ := hP
  have hx := Bd.exec
  have hby := Bd.bytes
  have hml : c.maxLocals = 4 := hml0
  have hown : s.vm.findClass "java/util/ArrayList" = some m.cls := findClass_of_methodNamed Bd.named
  have hnm := (name_of_methodNamed Bd.named Bd.method).1
  have X0 : Stand p l e ({ frames := 0, cells := 0, slots := 0, locals := 0 } : Room) s m #[(.ref a1), (.ref a2), (.ref ed), (.int (2 : Int32))] below meth c s₁ [] 0 0 := Stand.of_body Bd
  have e0 : s₁.heap = h0 := by rw [← hh, Bd.state]; rfl
  have N0 := Fr.nil n0
  have k0 : ∀ t, Steps p.tables e below (s₁.setTop (mkF m 0 #[.val (.ref a1), .val (.ref a2), .val (.ref ed), .val (.int (2 : Int32))] [])) t → Steps p.tables e below (s₁.setTop (entryFrame m #[(.ref a1), (.ref a2), (.ref ed), (.int (2 : Int32))] 4)) t := fun t k => castTop (ef_add3n2 m a1 a2 ed (2 : Int32)) k
  obtain ⟨E1, F1a, F1b, F1c⟩ := S1
  obtain ⟨cz, Az, Sz0, -⟩ := id D1
  obtain ⟨cl2, Ar2, Sz2, Ov2⟩ := id D1
  have hin2 : ¬ ((2 : Int32) < 0 ∨ cl2.slots.size ≤ ((2 : Int32)).toNatClampNeg) := by rw [Sz2]; decide
  have In2 := Ins.of_exa E_a2 (hw _ (List.mem_of_getElem? (i := 92) rfl))
  obtain ⟨T2, h2, X2, e2, W2, st2⟩ := stR X0 hx hZ e0 Ar2 (j := (2 : Int32)) hin2 rfl (Sto.of Ar2 Ov2 In2) (g := (mkF m 14 #[.val (.ref a1), .val (.ref a2), .val (.ref ed), .val (.int (2 : Int32))] [(.ref a2), (.int (2 : Int32)), (.ref ed)])) rfl rfl (hb hby d10_14)
  have N2 := Fr.snoc X2 N0 g_ed
  have V3 : own_ED Z h2 ed := D1.same W2
  have E4 : Exa Z h2 a2 "[B" := E_a2.wr W2
  have E5 : Exa Z h2 a1 "java/util/ArrayList" := E1.wr W2
  have F6 : Fld Z h2 a1 "java/util/ArrayList" "elementData" "[Ljava/lang/Object;" (.ref ed) := F1a.other W2 (Or.inl n1e)
  have F7 : Fld Z h2 a1 "java/util/ArrayList" "size" "I" (.int (2 : Int32)) := F1b.other W2 (Or.inl n1e)
  have F8 : Fld Z h2 a1 "java/util/AbstractList" "modCount" "I" (.int mc) := F1c.other W2 (Or.inl n1e)
  have K9 : Keep h0 h2 [a1, ed] := (Keep.refl h0 [a1, ed]).wr W2 (Or.inl (List.mem_of_getElem? (i := 1) rfl))
  have k10 : ∀ t, Steps p.tables e below (T2.setTop (mkF m 19 #[.val (.ref a1), .val (.ref a2), .val (.ref ed), .val (.int (2 : Int32))] [(.int ((2 : Int32) + (1 : Int32))), (.ref a1)])) t → Steps p.tables e below (s₁.setTop (entryFrame m #[(.ref a1), (.ref a2), (.ref ed), (.int (2 : Int32))] 4)) t := fun t k => k0 t (by
    show Steps p.tables e below (s₁.setTop (mkF m 0 #[.val (.ref a1), .val (.ref a2), .val (.ref ed), .val (.int (2 : Int32))] [])) _
    refine XS.iloadN X0.here hx rfl (hb hby d10_0) rfl ?_
    show Steps p.tables e below (s₁.setTop (mkF m 1 #[.val (.ref a1), .val (.ref a2), .val (.ref ed), .val (.int (2 : Int32))] [(.int (2 : Int32))])) _
    refine XS.aloadN X0.here hx rfl (hb hby d10_1) rfl rfl ?_
    show Steps p.tables e below (s₁.setTop (mkF m 2 #[.val (.ref a1), .val (.ref a2), .val (.ref ed), .val (.int (2 : Int32))] [(.ref ed), (.int (2 : Int32))])) _
    refine X0.arraylength hx (by rw [e0]; exact Az.1) (State.isArrayOf_alike hZ.alike Az.2.1) (g := (mkF m 2 #[.val (.ref a1), .val (.ref a2), .val (.ref ed), .val (.int (2 : Int32))] [(.ref ed), (.int (2 : Int32))])) rfl rfl (hb hby d10_2) _ ?_
    rw [show cz.slots.size.toInt32 = (10 : Int32) by rw [Sz0]; rfl]
    show Steps p.tables e below (s₁.setTop (mkF m 3 #[.val (.ref a1), .val (.ref a2), .val (.ref ed), .val (.int (2 : Int32))] [(.int (10 : Int32)), (.int (2 : Int32))])) _
    refine XS.icmpYes X0.here hx rfl (pc0 := 3) (pc' := 11) rfl (hb hby d10_3) rfl (feq (by decide)).2 (by decide) (by decide) ?_
    show Steps p.tables e below (s₁.setTop (mkF m 11 #[.val (.ref a1), .val (.ref a2), .val (.ref ed), .val (.int (2 : Int32))] [])) _
    refine XS.aloadN X0.here hx rfl (hb hby d10_11) rfl rfl ?_
    show Steps p.tables e below (s₁.setTop (mkF m 12 #[.val (.ref a1), .val (.ref a2), .val (.ref ed), .val (.int (2 : Int32))] [(.ref ed)])) _
    refine XS.iloadN X0.here hx rfl (hb hby d10_12) rfl ?_
    show Steps p.tables e below (s₁.setTop (mkF m 13 #[.val (.ref a1), .val (.ref a2), .val (.ref ed), .val (.int (2 : Int32))] [(.int (2 : Int32)), (.ref ed)])) _
    refine XS.aloadN X0.here hx rfl (hb hby d10_13) rfl rfl ?_
    show Steps p.tables e below (s₁.setTop (mkF m 14 #[.val (.ref a1), .val (.ref a2), .val (.ref ed), .val (.int (2 : Int32))] [(.ref a2), (.int (2 : Int32)), (.ref ed)])) _
    refine st2 _ ?_
    show Steps p.tables e below (T2.setTop (mkF m 15 #[.val (.ref a1), .val (.ref a2), .val (.ref ed), .val (.int (2 : Int32))] [])) _
    refine XS.aloadN X2.here hx rfl (hb hby d10_15) rfl rfl ?_
    show Steps p.tables e below (T2.setTop (mkF m 16 #[.val (.ref a1), .val (.ref a2), .val (.ref ed), .val (.int (2 : Int32))] [(.ref a1)])) _
    refine XS.iloadN X2.here hx rfl (hb hby d10_16) rfl ?_
    show Steps p.tables e below (T2.setTop (mkF m 17 #[.val (.ref a1), .val (.ref a2), .val (.ref ed), .val (.int (2 : Int32))] [(.int (2 : Int32)), (.ref a1)])) _
    refine XS.iconst X2.here hx rfl (hb hby d10_17) ?_
    show Steps p.tables e below (T2.setTop (mkF m 18 #[.val (.ref a1), .val (.ref a2), .val (.ref ed), .val (.int (2 : Int32))] [(.int (1 : Int32)), (.int (2 : Int32)), (.ref a1)])) _
    refine XS.iadd X2.here hx rfl (hb hby d10_18) rfl ?_
    exact k)
  have qk11 : ((2 : Int32) + (1 : Int32)) = (3 : Int32) := by decide
  have k11 : ∀ t, Steps p.tables e below (T2.setTop (mkF m 19 #[.val (.ref a1), .val (.ref a2), .val (.ref ed), .val (.int (2 : Int32))] [(.int (3 : Int32)), (.ref a1)])) t → Steps p.tables e below (s₁.setTop (entryFrame m #[(.ref a1), (.ref a2), (.ref ed), (.int (2 : Int32))] 4)) t := by rw [qk11] at k10; exact k10
  obtain ⟨T12, h12, X12, e12, W12, st12⟩ := putF X2 hx hZ hown (host := "") (Or.inl (hw _ (List.mem_of_getElem? (i := 59) rfl))) Via.refl e2 F7 E5 (Or.inl (hw _ (List.mem_of_getElem? (i := 60) rfl))) (hw _ (List.mem_of_getElem? (i := 12) rfl)) (ty := .int) (by decide) rfl rfl (g := (mkF m 19 #[.val (.ref a1), .val (.ref a2), .val (.ref ed), .val (.int (2 : Int32))] [(.int (3 : Int32)), (.ref a1)])) rfl rfl (hb hby d10_19)
  have N12 := Fr.snoc X12 N2 g_a1
  have F13 : Fld Z h12 a1 "java/util/ArrayList" "size" "I" (.int (3 : Int32)) := F7.same W12
  have E14 : Exa Z h12 a2 "[B" := E4.wr W12
  have E15 : Exa Z h12 a1 "java/util/ArrayList" := E5.wr W12
  have F16 : Fld Z h12 a1 "java/util/ArrayList" "elementData" "[Ljava/lang/Object;" (.ref ed) := F6.other W12 (Or.inr (slot_ne (Or.inl (hw _ (List.mem_of_getElem? (i := 34) rfl))) (Or.inl (hw _ (List.mem_of_getElem? (i := 60) rfl))) (by decide) (t := (.array (.object "java/lang/Object"))) (t' := .int) (by decide) (by decide)))
  have F17 : Fld Z h12 a1 "java/util/AbstractList" "modCount" "I" (.int mc) := F8.other W12 (Or.inr (slot_ne (Or.inl (hw _ (List.mem_of_getElem? (i := 31) rfl))) (Or.inl (hw _ (List.mem_of_getElem? (i := 60) rfl))) (by decide) (t := .int) (t' := .int) (by decide) (by decide)))
  have V18 : own_ED Z h12 ed := V3.other W12 (Ne.symm n1e)
  have K19 : Keep h0 h12 [a1, ed] := K9.wr W12 (Or.inl (List.mem_of_getElem? (i := 0) rfl))
  have k21 : ∀ t, Steps p.tables e below (T12.setTop (mkF m 22 #[.val (.ref a1), .val (.ref a2), .val (.ref ed), .val (.int (2 : Int32))] [])) t → Steps p.tables e below (s₁.setTop (entryFrame m #[(.ref a1), (.ref a2), (.ref ed), (.int (2 : Int32))] 4)) t := fun t k => k11 t (by
    show Steps p.tables e below (T2.setTop (mkF m 19 #[.val (.ref a1), .val (.ref a2), .val (.ref ed), .val (.int (2 : Int32))] [(.int (3 : Int32)), (.ref a1)])) _
    refine st12 _ ?_
    exact k)
  obtain ⟨fs, hr, hrun, hended, hW, hsame⟩ := X12.leave (v := none) (fun _ => rfl) (BodyLoose.notSynchronized Bd)
  refine ⟨_, _, k21 _ ?_, hrun, hended, _, _, rfl, ?_, ⟨_, rfl⟩, hW, hsame.mono (by decide) (by decide)⟩
  · show Steps p.tables e below (T12.setTop (mkF m 22 #[.val (.ref a1), .val (.ref a2), .val (.ref ed), .val (.int (2 : Int32))] [])) _
    exact X12.returnOut hx Bd.returns (hb hby d10_22) hr
  ·
    show Qadd3n2 _ a1 a2 ed mc h0 n0 _ T12.heap _
    rw [e12]
    exact ⟨rfl, N12, K19, ⟨E15, F16, F13, F17⟩, V18⟩
theorem pd__Ljava_lang_Object__Ljava_lang_Object_I_V : parseMethodDescriptor "(Ljava/lang/Object;[Ljava/lang/Object;I)V" = some ⟨[(.object "java/lang/Object"), (.array (.object "java/lang/Object")), .int], none⟩ := by decide +kernel
theorem d9_0 : decode jdk_38_method_25_code 0 = .ok (.aload_n 0, 1) := by decide +kernel
theorem d9_1 : decode jdk_38_method_25_code 1 = .ok (.dup, 1) := by decide +kernel
theorem d9_2 : decode jdk_38_method_25_code 2 = .ok (.getfield 63, 3) := by decide +kernel
theorem d9_5 : decode jdk_38_method_25_code 5 = .ok (.iconst 1, 1) := by decide +kernel
theorem d9_6 : decode jdk_38_method_25_code 6 = .ok (.iadd, 1) := by decide +kernel
theorem d9_7 : decode jdk_38_method_25_code 7 = .ok (.putfield 63, 3) := by decide +kernel
theorem d9_10 : decode jdk_38_method_25_code 10 = .ok (.aload_n 0, 1) := by decide +kernel
theorem d9_11 : decode jdk_38_method_25_code 11 = .ok (.aload_n 1, 1) := by decide +kernel
theorem d9_12 : decode jdk_38_method_25_code 12 = .ok (.aload_n 0, 1) := by decide +kernel
theorem d9_13 : decode jdk_38_method_25_code 13 = .ok (.getfield 9, 3) := by decide +kernel
theorem d9_16 : decode jdk_38_method_25_code 16 = .ok (.aload_n 0, 1) := by decide +kernel
theorem d9_17 : decode jdk_38_method_25_code 17 = .ok (.getfield 48, 3) := by decide +kernel
theorem d9_20 : decode jdk_38_method_25_code 20 = .ok (.invokevirtual 131, 3) := by decide +kernel
theorem d9_23 : decode jdk_38_method_25_code 23 = .ok (.iconst 1, 1) := by decide +kernel
theorem d9_24 : decode jdk_38_method_25_code 24 = .ok (.ireturn, 1) := by decide +kernel
theorem pn_9 : plainName "java/util/ArrayList" = true := by first | (simp [plainName, overriddenIn]; done) | decide +kernel
theorem ef_add1a (m : MethodId) (x0 : Addr) (x1 : Addr) : entryFrame m #[(.ref x0), (.ref x1)] 2 = mkF m 0 #[.val (.ref x0), .val (.ref x1)] [] := by first | (simp [entryFrame, mkF, argsToLocals, Value.category]; done) | rfl
def Qadd1a (Z : State) (a1 : Addr) (a2 : Addr) (w : Addr) (kw : ClassId) (mc : Int32) (h0 : Heap) (n0 : Nat) (v : Option Value) (h : Heap) (L : List Loc) : Prop := v = some (.int (1 : Int32)) ∧ Fr n0 L ∧ Keep h0 h [a1] ∧ ∃ ed : Addr, h0.size ≤ ed ∧ own_AL Z h a1 (.ref ed) 1 (mc + 1) ∧ own_ED Z h ed
set_option maxRecDepth 65536 in
set_option maxHeartbeats 40000000 in
theorem rm_add1a (l : Launch) (Z : State) (a0 : Array Value) (hw : ∀ d ∈ tables_1, d.before a0 Z = true) (ws : List Jvm.Cond) (a1 : Addr) (a2 : Addr) (w : Addr) (kw : ClassId) (mc : Int32) (h0 : Heap) (n0 : Nat) (Z0 : n0 ≤ h0.size) (S1 : own_AL Z h0 a1 (.ref w) 0 mc) (g_a1 : n0 ≤ a1) (S0 : Sta Z Z.heap "java/util/ArrayList" "DEFAULTCAPACITY_EMPTY_ELEMENTDATA" "[Ljava/lang/Object;" (.ref w)) (A0 : Arv Z Z.heap w kw (.object "java/lang/Object") 0 [] .null) (O0 : Old Z n0 h0) (E_a2 : Exa Z h0 a2 "[B") (n12 : a1 ≠ a2) :
    MetFree l (⟨"java/util/ArrayList", "add", "(Ljava/lang/Object;)Z"⟩ : MethodName) (head1 (Jvm.Cond.code (⟨"java/util/ArrayList", "add", "(Ljava/lang/Object;)Z"⟩ : MethodName) jdk_38_method_25_code 2 (some .boolean) :: ws) ({ frames := 4, cells := 1, slots := 10, locals := 56 } : Room)) (fun a U => a = #[(.ref a1), (.ref a2)] ∧ Z.Warmed39 U.vm ∧ U.heap = h0) (fun _ _ _ _ _ => True) (fun _ U o U' => ∃ v L, o = .returned v ∧ Qadd1a Z a1 a2 w kw mc h0 n0 v U'.heap L ∧ FrameEnd U o U' L ({ frames := 4, cells := 1, slots := 10, locals := 56 } : Room).cells ({ frames := 4, cells := 1, slots := 10, locals := 56 } : Room).slots) := by
  refine MetFree.of_bodySF (plainFor_of_name pn_9) hisR ?_
  intro p e s m args below meth c s₁ Bd hml0 hP hK
  obtain ⟨rfl, hZ, hh⟩ := hP
  have hx := Bd.exec
  have hby := Bd.bytes
  have hml : c.maxLocals = 2 := hml0
  have hown : s.vm.findClass "java/util/ArrayList" = some m.cls := findClass_of_methodNamed Bd.named
  have hnm := (name_of_methodNamed Bd.named Bd.method).1
  have X0 : Stand p l e ({ frames := 4, cells := 1, slots := 10, locals := 56 } : Room) s m #[(.ref a1), (.ref a2)] below meth c s₁ [] 0 0 := Stand.of_body Bd
  have e0 : s₁.heap = h0 := by rw [← hh, Bd.state]; rfl
  have N0 := Fr.nil n0
  have k0 : ∀ t, Steps p.tables e below (s₁.setTop (mkF m 0 #[.val (.ref a1), .val (.ref a2)] [])) t → Steps p.tables e below (s₁.setTop (entryFrame m #[(.ref a1), (.ref a2)] 2)) t := fun t k => castTop (ef_add1a m a1 a2) k
  obtain ⟨E1, F1a, F1b, F1c⟩ := S1
  obtain ⟨T2, X2, e2, st2⟩ := getF X0 hx hZ hown (host := "") (Or.inl (hw _ (List.mem_of_getElem? (i := 69) rfl))) (Via.of (hw _ (List.mem_of_getElem? (i := 70) rfl))) e0 F1c (g := (mkF m 2 #[.val (.ref a1), .val (.ref a2)] [(.ref a1), (.ref a1)])) rfl rfl (hb hby d9_2)
  obtain ⟨T3, h3, X3, e3, W3, st3⟩ := putF X2 hx hZ hown (host := "") (Or.inl (hw _ (List.mem_of_getElem? (i := 69) rfl))) (Via.of (hw _ (List.mem_of_getElem? (i := 70) rfl))) e2 F1c E1 (Or.inl (hw _ (List.mem_of_getElem? (i := 31) rfl))) (hw _ (List.mem_of_getElem? (i := 12) rfl)) (ty := .int) (by decide) rfl rfl (g := (mkF m 7 #[.val (.ref a1), .val (.ref a2)] [(.int (mc + (1 : Int32))), (.ref a1)])) rfl rfl (hb hby d9_7)
  have N3 := Fr.snoc X3 N0 g_a1
  have F4 : Fld Z h3 a1 "java/util/AbstractList" "modCount" "I" (.int (mc + (1 : Int32))) := F1c.same W3
  have O5 : Old Z n0 h3 := O0.wr W3 g_a1
  have E6 : Exa Z h3 a2 "[B" := E_a2.wr W3
  have E7 : Exa Z h3 a1 "java/util/ArrayList" := E1.wr W3
  have F8 : Fld Z h3 a1 "java/util/ArrayList" "elementData" "[Ljava/lang/Object;" (.ref w) := F1a.other W3 (Or.inr (slot_ne (Or.inl (hw _ (List.mem_of_getElem? (i := 34) rfl))) (Or.inl (hw _ (List.mem_of_getElem? (i := 31) rfl))) (by decide) (t := (.array (.object "java/lang/Object"))) (t' := .int) (by decide) (by decide)))
  have F9 : Fld Z h3 a1 "java/util/ArrayList" "size" "I" (.int (0 : Int32)) := F1b.other W3 (Or.inr (slot_ne (Or.inl (hw _ (List.mem_of_getElem? (i := 60) rfl))) (Or.inl (hw _ (List.mem_of_getElem? (i := 31) rfl))) (by decide) (t := .int) (t' := .int) (by decide) (by decide)))
  have K10 : Keep h0 h3 [a1] := (Keep.refl h0 [a1]).wr W3 (Or.inl (List.mem_of_getElem? (i := 0) rfl))
  obtain ⟨T11, X11, e11, st11⟩ := getF X3 hx hZ hown (host := "") (Or.inl (hw _ (List.mem_of_getElem? (i := 33) rfl))) Via.refl e3 F8 (g := (mkF m 13 #[.val (.ref a1), .val (.ref a2)] [(.ref a1), (.ref a2), (.ref a1)])) rfl rfl (hb hby d9_13)
  obtain ⟨T12, X12, e12, st12⟩ := getF X11 hx hZ hown (host := "") (Or.inl (hw _ (List.mem_of_getElem? (i := 59) rfl))) Via.refl e11 F9 (g := (mkF m 17 #[.val (.ref a1), .val (.ref a2)] [(.ref a1), (.ref w), (.ref a2), (.ref a1)])) rfl rfl (hb hby d9_17)
  obtain ⟨cpv13, pv13, pv13'⟩ := E7.cell
  obtain ⟨_, _, ⟨T13, L13, kk13, n13⟩, -, X13, ⟨Lc13, hQ13, l13, y13, z13⟩, st13⟩ := X12.privateBack hx (y := (⟨"java/util/ArrayList", "add", "(Ljava/lang/Object;[Ljava/lang/Object;I)V"⟩ : MethodName)) hown (mvT hZ (hw _ (List.mem_of_getElem? (i := 71) rfl))) (mvT hZ (hw _ (List.mem_of_getElem? (i := 72) rfl))) (mvT hZ (hw _ (List.mem_of_getElem? (i := 74) rfl))) (Cond.privateMethod_at (mvP hZ (hw _ (List.mem_of_getElem? (i := 73) rfl)) (args := #[]))) (mvT hZ (hw _ (List.mem_of_getElem? (i := 75) rfl))) (by decide) (backOf (W := 0) (rm_add3a l Z a0 hw [] a1 a2 w kw (mc + (1 : Int32)) h3 n0 (Nat.le_trans Z0 K10.1) ⟨E7, F8, F9, F4⟩ g_a1 S0 A0 O5 E6 n12) hZ (hw _ (List.mem_of_getElem? (i := 75) rfl)) (hw _ (List.mem_of_getElem? (i := 13) rfl)) (by decide) (by decide)) (g := (mkF m 20 #[.val (.ref a1), .val (.ref a2)] [(.int (0 : Int32)), (.ref w), (.ref a2), (.ref a1)])) rfl (by rw [hml]; rfl) (Steps.refl _) (a := a1) (by rw [e12]; exact pv13) pv13' (argsL := [(.ref a2), (.ref w), (.int (0 : Int32))]) (rest := []) (lenOf pd__Ljava_lang_Object__Ljava_lang_Object_I_V rfl) rfl (by show 2 * 0 + _ ≤ _; exact Nat.le_of_eq rfl) (hb hby d9_20) (fun _ _ => ⟨rfl, e12, (by decide : 0 + 1 ≤ _), (by decide : 0 + 10 ≤ _)⟩)
  dsimp only [Pt.U, Pt.locs, Pt.cells, Pt.slots] at X13 l13 y13 z13 st13 hQ13
  subst l13 y13 z13
  obtain ⟨rfl, N13q, Kg, ed, ze, Sg, Dg⟩ := hQ13
  have N13 := Fr.app N3 N13q
  have K14 : Keep h0 T13.heap [a1] := K10.trans Kg (allS (Or.inl (List.mem_of_getElem? (i := 0) rfl)) all0)
  have O15 : Old Z n0 T13.heap := O5.keep Kg (allS g_a1 all0)
  have E16 : Exa Z T13.heap a2 "[B" := E6.keep Kg
  have E17 : Exa Z T13.heap a1 "java/util/ArrayList" := E7.keep Kg
  have k19 : ∀ t, Steps p.tables e below (T13.setTop (mkF m 24 #[.val (.ref a1), .val (.ref a2)] [(.int (1 : Int32))])) t → Steps p.tables e below (s₁.setTop (entryFrame m #[(.ref a1), (.ref a2)] 2)) t := fun t k => k0 t (by
    show Steps p.tables e below (s₁.setTop (mkF m 0 #[.val (.ref a1), .val (.ref a2)] [])) _
    refine XS.aloadN X0.here hx rfl (hb hby d9_0) rfl rfl ?_
    show Steps p.tables e below (s₁.setTop (mkF m 1 #[.val (.ref a1), .val (.ref a2)] [(.ref a1)])) _
    refine XS.dup X0.here hx rfl (hb hby d9_1) rfl rfl ?_
    show Steps p.tables e below (s₁.setTop (mkF m 2 #[.val (.ref a1), .val (.ref a2)] [(.ref a1), (.ref a1)])) _
    refine st2 _ ?_
    show Steps p.tables e below (T2.setTop (mkF m 5 #[.val (.ref a1), .val (.ref a2)] [(.int mc), (.ref a1)])) _
    refine XS.iconst X2.here hx rfl (hb hby d9_5) ?_
    show Steps p.tables e below (T2.setTop (mkF m 6 #[.val (.ref a1), .val (.ref a2)] [(.int (1 : Int32)), (.int mc), (.ref a1)])) _
    refine XS.iadd X2.here hx rfl (hb hby d9_6) rfl ?_
    show Steps p.tables e below (T2.setTop (mkF m 7 #[.val (.ref a1), .val (.ref a2)] [(.int (mc + (1 : Int32))), (.ref a1)])) _
    refine st3 _ ?_
    show Steps p.tables e below (T3.setTop (mkF m 10 #[.val (.ref a1), .val (.ref a2)] [])) _
    refine XS.aloadN X3.here hx rfl (hb hby d9_10) rfl rfl ?_
    show Steps p.tables e below (T3.setTop (mkF m 11 #[.val (.ref a1), .val (.ref a2)] [(.ref a1)])) _
    refine XS.aloadN X3.here hx rfl (hb hby d9_11) rfl rfl ?_
    show Steps p.tables e below (T3.setTop (mkF m 12 #[.val (.ref a1), .val (.ref a2)] [(.ref a2), (.ref a1)])) _
    refine XS.aloadN X3.here hx rfl (hb hby d9_12) rfl rfl ?_
    show Steps p.tables e below (T3.setTop (mkF m 13 #[.val (.ref a1), .val (.ref a2)] [(.ref a1), (.ref a2), (.ref a1)])) _
    refine st11 _ ?_
    show Steps p.tables e below (T11.setTop (mkF m 16 #[.val (.ref a1), .val (.ref a2)] [(.ref w), (.ref a2), (.ref a1)])) _
    refine XS.aloadN X11.here hx rfl (hb hby d9_16) rfl rfl ?_
    show Steps p.tables e below (T11.setTop (mkF m 17 #[.val (.ref a1), .val (.ref a2)] [(.ref a1), (.ref w), (.ref a2), (.ref a1)])) _
    refine st12 _ ?_
    show Steps p.tables e below (T12.setTop (mkF m 20 #[.val (.ref a1), .val (.ref a2)] [(.int (0 : Int32)), (.ref w), (.ref a2), (.ref a1)])) _
    refine st13.trans ?_
    show Steps p.tables e below (T13.setTop (mkF m 23 #[.val (.ref a1), .val (.ref a2)] [])) _
    refine XS.iconst X13.here hx rfl (hb hby d9_23) ?_
    exact k)
  obtain ⟨fs, hr, hrun, hended, hW, hsame⟩ := X13.leave (v := some (.int (1 : Int32))) (fun h => by rw [Bd.returns] at h; cases h) (BodyLoose.notSynchronized Bd)
  refine ⟨_, _, k19 _ ?_, hrun, hended, _, _, rfl, ?_, ⟨_, rfl⟩, hW, hsame.mono (by decide) (by decide)⟩
  · show Steps p.tables e below (T13.setTop (mkF m 24 #[.val (.ref a1), .val (.ref a2)] [(.int (1 : Int32))])) _
    exact retN X13 hx (t := .boolean) Bd.returns (by simp) (hb hby d9_24) hr
  ·
    show Qadd1a _ a1 a2 w kw mc h0 n0 _ T13.heap _
    exact ⟨rfl, N13, K14, ed, Nat.le_trans K10.1 ze, Sg, Dg⟩
theorem ef_add1n1 (m : MethodId) (x0 : Addr) (x1 : Addr) : entryFrame m #[(.ref x0), (.ref x1)] 2 = mkF m 0 #[.val (.ref x0), .val (.ref x1)] [] := by first | (simp [entryFrame, mkF, argsToLocals, Value.category]; done) | rfl
def Qadd1n1 (Z : State) (a1 : Addr) (a2 : Addr) (ed : Addr) (mc : Int32) (h0 : Heap) (n0 : Nat) (v : Option Value) (h : Heap) (L : List Loc) : Prop := v = some (.int (1 : Int32)) ∧ Fr n0 L ∧ Keep h0 h [a1, ed] ∧ own_AL Z h a1 (.ref ed) 2 (mc + 1) ∧ own_ED Z h ed
set_option maxRecDepth 65536 in
set_option maxHeartbeats 40000000 in
theorem rm_add1n1 (l : Launch) (Z : State) (a0 : Array Value) (hw : ∀ d ∈ tables_1, d.before a0 Z = true) (ws : List Jvm.Cond) (a1 : Addr) (a2 : Addr) (ed : Addr) (mc : Int32) (h0 : Heap) (n0 : Nat) (Z0 : n0 ≤ h0.size) (S1 : own_AL Z h0 a1 (.ref ed) 1 mc) (D1 : own_ED Z h0 ed) (g_a1 : n0 ≤ a1) (g_ed : n0 ≤ ed) (n1e : a1 ≠ ed) (E_a2 : Exa Z h0 a2 "[B") :
    MetFree l (⟨"java/util/ArrayList", "add", "(Ljava/lang/Object;)Z"⟩ : MethodName) (head1 (Jvm.Cond.code (⟨"java/util/ArrayList", "add", "(Ljava/lang/Object;)Z"⟩ : MethodName) jdk_38_method_25_code 2 (some .boolean) :: ws) ({ frames := 1, cells := 0, slots := 0, locals := 15 } : Room)) (fun a U => a = #[(.ref a1), (.ref a2)] ∧ Z.Warmed39 U.vm ∧ U.heap = h0) (fun _ _ _ _ _ => True) (fun _ U o U' => ∃ v L, o = .returned v ∧ Qadd1n1 Z a1 a2 ed mc h0 n0 v U'.heap L ∧ FrameEnd U o U' L ({ frames := 1, cells := 0, slots := 0, locals := 15 } : Room).cells ({ frames := 1, cells := 0, slots := 0, locals := 15 } : Room).slots) := by
  refine MetFree.of_bodySF (plainFor_of_name pn_9) hisR ?_
  intro p e s m args below meth c s₁ Bd hml0 hP hK
  obtain ⟨rfl, hZ, hh⟩ := hP
  have hx := Bd.exec
  have hby := Bd.bytes
  have hml : c.maxLocals = 2 := hml0
  have hown : s.vm.findClass "java/util/ArrayList" = some m.cls := findClass_of_methodNamed Bd.named
  have hnm := (name_of_methodNamed Bd.named Bd.method).1
  have X0 : Stand p l e ({ frames := 1, cells := 0, slots := 0, locals := 15 } : Room) s m #[(.ref a1), (.ref a2)] below meth c s₁ [] 0 0 := Stand.of_body Bd
  have e0 : s₁.heap = h0 := by rw [← hh, Bd.state]; rfl
  have N0 := Fr.nil n0
  have k0 : ∀ t, Steps p.tables e below (s₁.setTop (mkF m 0 #[.val (.ref a1), .val (.ref a2)] [])) t → Steps p.tables e below (s₁.setTop (entryFrame m #[(.ref a1), (.ref a2)] 2)) t := fun t k => castTop (ef_add1n1 m a1 a2) k
  obtain ⟨E1, F1a, F1b, F1c⟩ := S1
  obtain ⟨T2, X2, e2, st2⟩ := getF X0 hx hZ hown (host := "") (Or.inl (hw _ (List.mem_of_getElem? (i := 69) rfl))) (Via.of (hw _ (List.mem_of_getElem? (i := 70) rfl))) e0 F1c (g := (mkF m 2 #[.val (.ref a1), .val (.ref a2)] [(.ref a1), (.ref a1)])) rfl rfl (hb hby d9_2)
  obtain ⟨T3, h3, X3, e3, W3, st3⟩ := putF X2 hx hZ hown (host := "") (Or.inl (hw _ (List.mem_of_getElem? (i := 69) rfl))) (Via.of (hw _ (List.mem_of_getElem? (i := 70) rfl))) e2 F1c E1 (Or.inl (hw _ (List.mem_of_getElem? (i := 31) rfl))) (hw _ (List.mem_of_getElem? (i := 12) rfl)) (ty := .int) (by decide) rfl rfl (g := (mkF m 7 #[.val (.ref a1), .val (.ref a2)] [(.int (mc + (1 : Int32))), (.ref a1)])) rfl rfl (hb hby d9_7)
  have N3 := Fr.snoc X3 N0 g_a1
  have F4 : Fld Z h3 a1 "java/util/AbstractList" "modCount" "I" (.int (mc + (1 : Int32))) := F1c.same W3
  have E5 : Exa Z h3 a2 "[B" := E_a2.wr W3
  have E6 : Exa Z h3 a1 "java/util/ArrayList" := E1.wr W3
  have F7 : Fld Z h3 a1 "java/util/ArrayList" "elementData" "[Ljava/lang/Object;" (.ref ed) := F1a.other W3 (Or.inr (slot_ne (Or.inl (hw _ (List.mem_of_getElem? (i := 34) rfl))) (Or.inl (hw _ (List.mem_of_getElem? (i := 31) rfl))) (by decide) (t := (.array (.object "java/lang/Object"))) (t' := .int) (by decide) (by decide)))
  have F8 : Fld Z h3 a1 "java/util/ArrayList" "size" "I" (.int (1 : Int32)) := F1b.other W3 (Or.inr (slot_ne (Or.inl (hw _ (List.mem_of_getElem? (i := 60) rfl))) (Or.inl (hw _ (List.mem_of_getElem? (i := 31) rfl))) (by decide) (t := .int) (t' := .int) (by decide) (by decide)))
  have V9 : own_ED Z h3 ed := D1.other W3 (Ne.symm n1e)
  have K10 : Keep h0 h3 [a1, ed] := (Keep.refl h0 [a1, ed]).wr W3 (Or.inl (List.mem_of_getElem? (i := 0) rfl))
  obtain ⟨T11, X11, e11, st11⟩ := getF X3 hx hZ hown (host := "") (Or.inl (hw _ (List.mem_of_getElem? (i := 33) rfl))) Via.refl e3 F7 (g := (mkF m 13 #[.val (.ref a1), .val (.ref a2)] [(.ref a1), (.ref a2), (.ref a1)])) rfl rfl (hb hby d9_13)
  obtain ⟨T12, X12, e12, st12⟩ := getF X11 hx hZ hown (host := "") (Or.inl (hw _ (List.mem_of_getElem? (i := 59) rfl))) Via.refl e11 F8 (g := (mkF m 17 #[.val (.ref a1), .val (.ref a2)] [(.ref a1), (.ref ed), (.ref a2), (.ref a1)])) rfl rfl (hb hby d9_17)
  obtain ⟨cpv13, pv13, pv13'⟩ := E6.cell
  obtain ⟨_, _, ⟨T13, L13, kk13, n13⟩, -, X13, ⟨Lc13, hQ13, l13, y13, z13⟩, st13⟩ := X12.privateBack hx (y := (⟨"java/util/ArrayList", "add", "(Ljava/lang/Object;[Ljava/lang/Object;I)V"⟩ : MethodName)) hown (mvT hZ (hw _ (List.mem_of_getElem? (i := 71) rfl))) (mvT hZ (hw _ (List.mem_of_getElem? (i := 72) rfl))) (mvT hZ (hw _ (List.mem_of_getElem? (i := 74) rfl))) (Cond.privateMethod_at (mvP hZ (hw _ (List.mem_of_getElem? (i := 73) rfl)) (args := #[]))) (mvT hZ (hw _ (List.mem_of_getElem? (i := 75) rfl))) (by decide) (backOf (W := 0) (rm_add3n1 l Z a0 hw [] a1 a2 ed (mc + (1 : Int32)) h3 n0 (Nat.le_trans Z0 K10.1) ⟨E6, F7, F8, F4⟩ V9 g_a1 g_ed n1e E5) hZ (hw _ (List.mem_of_getElem? (i := 75) rfl)) (hw _ (List.mem_of_getElem? (i := 13) rfl)) (by decide) (by decide)) (g := (mkF m 20 #[.val (.ref a1), .val (.ref a2)] [(.int (1 : Int32)), (.ref ed), (.ref a2), (.ref a1)])) rfl (by rw [hml]; rfl) (Steps.refl _) (a := a1) (by rw [e12]; exact pv13) pv13' (argsL := [(.ref a2), (.ref ed), (.int (1 : Int32))]) (rest := []) (lenOf pd__Ljava_lang_Object__Ljava_lang_Object_I_V rfl) rfl (by show 2 * 0 + _ ≤ _; exact Nat.le_of_eq rfl) (hb hby d9_20) (fun _ _ => ⟨rfl, e12, (by decide : 0 + 0 ≤ _), (by decide : 0 + 0 ≤ _)⟩)
  dsimp only [Pt.U, Pt.locs, Pt.cells, Pt.slots] at X13 l13 y13 z13 st13 hQ13
  subst l13 y13 z13
  obtain ⟨rfl, N13q, Kg, Sg, Dg⟩ := hQ13
  have N13 := Fr.app N3 N13q
  have K14 : Keep h0 T13.heap [a1, ed] := K10.trans Kg (allS (Or.inl (List.mem_of_getElem? (i := 0) rfl)) (allS (Or.inl (List.mem_of_getElem? (i := 1) rfl)) all0))
  have E15 : Exa Z T13.heap a2 "[B" := E5.keep Kg
  have E16 : Exa Z T13.heap a1 "java/util/ArrayList" := E6.keep Kg
  have k18 : ∀ t, Steps p.tables e below (T13.setTop (mkF m 24 #[.val (.ref a1), .val (.ref a2)] [(.int (1 : Int32))])) t → Steps p.tables e below (s₁.setTop (entryFrame m #[(.ref a1), (.ref a2)] 2)) t := fun t k => k0 t (by
    show Steps p.tables e below (s₁.setTop (mkF m 0 #[.val (.ref a1), .val (.ref a2)] [])) _
    refine XS.aloadN X0.here hx rfl (hb hby d9_0) rfl rfl ?_
    show Steps p.tables e below (s₁.setTop (mkF m 1 #[.val (.ref a1), .val (.ref a2)] [(.ref a1)])) _
    refine XS.dup X0.here hx rfl (hb hby d9_1) rfl rfl ?_
    show Steps p.tables e below (s₁.setTop (mkF m 2 #[.val (.ref a1), .val (.ref a2)] [(.ref a1), (.ref a1)])) _
    refine st2 _ ?_
    show Steps p.tables e below (T2.setTop (mkF m 5 #[.val (.ref a1), .val (.ref a2)] [(.int mc), (.ref a1)])) _
    refine XS.iconst X2.here hx rfl (hb hby d9_5) ?_
    show Steps p.tables e below (T2.setTop (mkF m 6 #[.val (.ref a1), .val (.ref a2)] [(.int (1 : Int32)), (.int mc), (.ref a1)])) _
    refine XS.iadd X2.here hx rfl (hb hby d9_6) rfl ?_
    show Steps p.tables e below (T2.setTop (mkF m 7 #[.val (.ref a1), .val (.ref a2)] [(.int (mc + (1 : Int32))), (.ref a1)])) _
    refine st3 _ ?_
    show Steps p.tables e below (T3.setTop (mkF m 10 #[.val (.ref a1), .val (.ref a2)] [])) _
    refine XS.aloadN X3.here hx rfl (hb hby d9_10) rfl rfl ?_
    show Steps p.tables e below (T3.setTop (mkF m 11 #[.val (.ref a1), .val (.ref a2)] [(.ref a1)])) _
    refine XS.aloadN X3.here hx rfl (hb hby d9_11) rfl rfl ?_
    show Steps p.tables e below (T3.setTop (mkF m 12 #[.val (.ref a1), .val (.ref a2)] [(.ref a2), (.ref a1)])) _
    refine XS.aloadN X3.here hx rfl (hb hby d9_12) rfl rfl ?_
    show Steps p.tables e below (T3.setTop (mkF m 13 #[.val (.ref a1), .val (.ref a2)] [(.ref a1), (.ref a2), (.ref a1)])) _
    refine st11 _ ?_
    show Steps p.tables e below (T11.setTop (mkF m 16 #[.val (.ref a1), .val (.ref a2)] [(.ref ed), (.ref a2), (.ref a1)])) _
    refine XS.aloadN X11.here hx rfl (hb hby d9_16) rfl rfl ?_
    show Steps p.tables e below (T11.setTop (mkF m 17 #[.val (.ref a1), .val (.ref a2)] [(.ref a1), (.ref ed), (.ref a2), (.ref a1)])) _
    refine st12 _ ?_
    show Steps p.tables e below (T12.setTop (mkF m 20 #[.val (.ref a1), .val (.ref a2)] [(.int (1 : Int32)), (.ref ed), (.ref a2), (.ref a1)])) _
    refine st13.trans ?_
    show Steps p.tables e below (T13.setTop (mkF m 23 #[.val (.ref a1), .val (.ref a2)] [])) _
    refine XS.iconst X13.here hx rfl (hb hby d9_23) ?_
    exact k)
  obtain ⟨fs, hr, hrun, hended, hW, hsame⟩ := X13.leave (v := some (.int (1 : Int32))) (fun h => by rw [Bd.returns] at h; cases h) (BodyLoose.notSynchronized Bd)
  refine ⟨_, _, k18 _ ?_, hrun, hended, _, _, rfl, ?_, ⟨_, rfl⟩, hW, hsame.mono (by decide) (by decide)⟩
  · show Steps p.tables e below (T13.setTop (mkF m 24 #[.val (.ref a1), .val (.ref a2)] [(.int (1 : Int32))])) _
    exact retN X13 hx (t := .boolean) Bd.returns (by simp) (hb hby d9_24) hr
  ·
    show Qadd1n1 _ a1 a2 ed mc h0 n0 _ T13.heap _
    exact ⟨rfl, N13, K14, Sg, Dg⟩
theorem ef_add1n2 (m : MethodId) (x0 : Addr) (x1 : Addr) : entryFrame m #[(.ref x0), (.ref x1)] 2 = mkF m 0 #[.val (.ref x0), .val (.ref x1)] [] := by first | (simp [entryFrame, mkF, argsToLocals, Value.category]; done) | rfl
def Qadd1n2 (Z : State) (a1 : Addr) (a2 : Addr) (ed : Addr) (mc : Int32) (h0 : Heap) (n0 : Nat) (v : Option Value) (h : Heap) (L : List Loc) : Prop := v = some (.int (1 : Int32)) ∧ Fr n0 L ∧ Keep h0 h [a1, ed] ∧ own_AL Z h a1 (.ref ed) 3 (mc + 1) ∧ own_ED Z h ed
set_option maxRecDepth 65536 in
set_option maxHeartbeats 40000000 in
theorem rm_add1n2 (l : Launch) (Z : State) (a0 : Array Value) (hw : ∀ d ∈ tables_1, d.before a0 Z = true) (ws : List Jvm.Cond) (a1 : Addr) (a2 : Addr) (ed : Addr) (mc : Int32) (h0 : Heap) (n0 : Nat) (Z0 : n0 ≤ h0.size) (S1 : own_AL Z h0 a1 (.ref ed) 2 mc) (D1 : own_ED Z h0 ed) (g_a1 : n0 ≤ a1) (g_ed : n0 ≤ ed) (n1e : a1 ≠ ed) (E_a2 : Exa Z h0 a2 "[B") :
    MetFree l (⟨"java/util/ArrayList", "add", "(Ljava/lang/Object;)Z"⟩ : MethodName) (head1 (Jvm.Cond.code (⟨"java/util/ArrayList", "add", "(Ljava/lang/Object;)Z"⟩ : MethodName) jdk_38_method_25_code 2 (some .boolean) :: ws) ({ frames := 1, cells := 0, slots := 0, locals := 15 } : Room)) (fun a U => a = #[(.ref a1), (.ref a2)] ∧ Z.Warmed39 U.vm ∧ U.heap = h0) (fun _ _ _ _ _ => True) (fun _ U o U' => ∃ v L, o = .returned v ∧ Qadd1n2 Z a1 a2 ed mc h0 n0 v U'.heap L ∧ FrameEnd U o U' L ({ frames := 1, cells := 0, slots := 0, locals := 15 } : Room).cells ({ frames := 1, cells := 0, slots := 0, locals := 15 } : Room).slots) := by
  refine MetFree.of_bodySF (plainFor_of_name pn_9) hisR ?_
  intro p e s m args below meth c s₁ Bd hml0 hP hK
  obtain ⟨rfl, hZ, hh⟩ := hP
  have hx := Bd.exec
  have hby := Bd.bytes
  have hml : c.maxLocals = 2 := hml0
  have hown : s.vm.findClass "java/util/ArrayList" = some m.cls := findClass_of_methodNamed Bd.named
  have hnm := (name_of_methodNamed Bd.named Bd.method).1
  have X0 : Stand p l e ({ frames := 1, cells := 0, slots := 0, locals := 15 } : Room) s m #[(.ref a1), (.ref a2)] below meth c s₁ [] 0 0 := Stand.of_body Bd
  have e0 : s₁.heap = h0 := by rw [← hh, Bd.state]; rfl
  have N0 := Fr.nil n0
  have k0 : ∀ t, Steps p.tables e below (s₁.setTop (mkF m 0 #[.val (.ref a1), .val (.ref a2)] [])) t → Steps p.tables e below (s₁.setTop (entryFrame m #[(.ref a1), (.ref a2)] 2)) t := fun t k => castTop (ef_add1n2 m a1 a2) k
  obtain ⟨E1, F1a, F1b, F1c⟩ := S1
  obtain ⟨T2, X2, e2, st2⟩ := getF X0 hx hZ hown (host := "") (Or.inl (hw _ (List.mem_of_getElem? (i := 69) rfl))) (Via.of (hw _ (List.mem_of_getElem? (i := 70) rfl))) e0 F1c (g := (mkF m 2 #[.val (.ref a1), .val (.ref a2)] [(.ref a1), (.ref a1)])) rfl rfl (hb hby d9_2)
  obtain ⟨T3, h3, X3, e3, W3, st3⟩ := putF X2 hx hZ hown (host := "") (Or.inl (hw _ (List.mem_of_getElem? (i := 69) rfl))) (Via.of (hw _ (List.mem_of_getElem? (i := 70) rfl))) e2 F1c E1 (Or.inl (hw _ (List.mem_of_getElem? (i := 31) rfl))) (hw _ (List.mem_of_getElem? (i := 12) rfl)) (ty := .int) (by decide) rfl rfl (g := (mkF m 7 #[.val (.ref a1), .val (.ref a2)] [(.int (mc + (1 : Int32))), (.ref a1)])) rfl rfl (hb hby d9_7)
  have N3 := Fr.snoc X3 N0 g_a1
  have F4 : Fld Z h3 a1 "java/util/AbstractList" "modCount" "I" (.int (mc + (1 : Int32))) := F1c.same W3
  have E5 : Exa Z h3 a2 "[B" := E_a2.wr W3
  have E6 : Exa Z h3 a1 "java/util/ArrayList" := E1.wr W3
  have F7 : Fld Z h3 a1 "java/util/ArrayList" "elementData" "[Ljava/lang/Object;" (.ref ed) := F1a.other W3 (Or.inr (slot_ne (Or.inl (hw _ (List.mem_of_getElem? (i := 34) rfl))) (Or.inl (hw _ (List.mem_of_getElem? (i := 31) rfl))) (by decide) (t := (.array (.object "java/lang/Object"))) (t' := .int) (by decide) (by decide)))
  have F8 : Fld Z h3 a1 "java/util/ArrayList" "size" "I" (.int (2 : Int32)) := F1b.other W3 (Or.inr (slot_ne (Or.inl (hw _ (List.mem_of_getElem? (i := 60) rfl))) (Or.inl (hw _ (List.mem_of_getElem? (i := 31) rfl))) (by decide) (t := .int) (t' := .int) (by decide) (by decide)))
  have V9 : own_ED Z h3 ed := D1.other W3 (Ne.symm n1e)
  have K10 : Keep h0 h3 [a1, ed] := (Keep.refl h0 [a1, ed]).wr W3 (Or.inl (List.mem_of_getElem? (i := 0) rfl))
  obtain ⟨T11, X11, e11, st11⟩ := getF X3 hx hZ hown (host := "") (Or.inl (hw _ (List.mem_of_getElem? (i := 33) rfl))) Via.refl e3 F7 (g := (mkF m 13 #[.val (.ref a1), .val (.ref a2)] [(.ref a1), (.ref a2), (.ref a1)])) rfl rfl (hb hby d9_13)
  obtain ⟨T12, X12, e12, st12⟩ := getF X11 hx hZ hown (host := "") (Or.inl (hw _ (List.mem_of_getElem? (i := 59) rfl))) Via.refl e11 F8 (g := (mkF m 17 #[.val (.ref a1), .val (.ref a2)] [(.ref a1), (.ref ed), (.ref a2), (.ref a1)])) rfl rfl (hb hby d9_17)
  obtain ⟨cpv13, pv13, pv13'⟩ := E6.cell
  obtain ⟨_, _, ⟨T13, L13, kk13, n13⟩, -, X13, ⟨Lc13, hQ13, l13, y13, z13⟩, st13⟩ := X12.privateBack hx (y := (⟨"java/util/ArrayList", "add", "(Ljava/lang/Object;[Ljava/lang/Object;I)V"⟩ : MethodName)) hown (mvT hZ (hw _ (List.mem_of_getElem? (i := 71) rfl))) (mvT hZ (hw _ (List.mem_of_getElem? (i := 72) rfl))) (mvT hZ (hw _ (List.mem_of_getElem? (i := 74) rfl))) (Cond.privateMethod_at (mvP hZ (hw _ (List.mem_of_getElem? (i := 73) rfl)) (args := #[]))) (mvT hZ (hw _ (List.mem_of_getElem? (i := 75) rfl))) (by decide) (backOf (W := 0) (rm_add3n2 l Z a0 hw [] a1 a2 ed (mc + (1 : Int32)) h3 n0 (Nat.le_trans Z0 K10.1) ⟨E6, F7, F8, F4⟩ V9 g_a1 g_ed n1e E5) hZ (hw _ (List.mem_of_getElem? (i := 75) rfl)) (hw _ (List.mem_of_getElem? (i := 13) rfl)) (by decide) (by decide)) (g := (mkF m 20 #[.val (.ref a1), .val (.ref a2)] [(.int (2 : Int32)), (.ref ed), (.ref a2), (.ref a1)])) rfl (by rw [hml]; rfl) (Steps.refl _) (a := a1) (by rw [e12]; exact pv13) pv13' (argsL := [(.ref a2), (.ref ed), (.int (2 : Int32))]) (rest := []) (lenOf pd__Ljava_lang_Object__Ljava_lang_Object_I_V rfl) rfl (by show 2 * 0 + _ ≤ _; exact Nat.le_of_eq rfl) (hb hby d9_20) (fun _ _ => ⟨rfl, e12, (by decide : 0 + 0 ≤ _), (by decide : 0 + 0 ≤ _)⟩)
  dsimp only [Pt.U, Pt.locs, Pt.cells, Pt.slots] at X13 l13 y13 z13 st13 hQ13
  subst l13 y13 z13
  obtain ⟨rfl, N13q, Kg, Sg, Dg⟩ := hQ13
  have N13 := Fr.app N3 N13q
  have K14 : Keep h0 T13.heap [a1, ed] := K10.trans Kg (allS (Or.inl (List.mem_of_getElem? (i := 0) rfl)) (allS (Or.inl (List.mem_of_getElem? (i := 1) rfl)) all0))
  have E15 : Exa Z T13.heap a2 "[B" := E5.keep Kg
  have E16 : Exa Z T13.heap a1 "java/util/ArrayList" := E6.keep Kg
  have k18 : ∀ t, Steps p.tables e below (T13.setTop (mkF m 24 #[.val (.ref a1), .val (.ref a2)] [(.int (1 : Int32))])) t → Steps p.tables e below (s₁.setTop (entryFrame m #[(.ref a1), (.ref a2)] 2)) t := fun t k => k0 t (by
    show Steps p.tables e below (s₁.setTop (mkF m 0 #[.val (.ref a1), .val (.ref a2)] [])) _
    refine XS.aloadN X0.here hx rfl (hb hby d9_0) rfl rfl ?_
    show Steps p.tables e below (s₁.setTop (mkF m 1 #[.val (.ref a1), .val (.ref a2)] [(.ref a1)])) _
    refine XS.dup X0.here hx rfl (hb hby d9_1) rfl rfl ?_
    show Steps p.tables e below (s₁.setTop (mkF m 2 #[.val (.ref a1), .val (.ref a2)] [(.ref a1), (.ref a1)])) _
    refine st2 _ ?_
    show Steps p.tables e below (T2.setTop (mkF m 5 #[.val (.ref a1), .val (.ref a2)] [(.int mc), (.ref a1)])) _
    refine XS.iconst X2.here hx rfl (hb hby d9_5) ?_
    show Steps p.tables e below (T2.setTop (mkF m 6 #[.val (.ref a1), .val (.ref a2)] [(.int (1 : Int32)), (.int mc), (.ref a1)])) _
    refine XS.iadd X2.here hx rfl (hb hby d9_6) rfl ?_
    show Steps p.tables e below (T2.setTop (mkF m 7 #[.val (.ref a1), .val (.ref a2)] [(.int (mc + (1 : Int32))), (.ref a1)])) _
    refine st3 _ ?_
    show Steps p.tables e below (T3.setTop (mkF m 10 #[.val (.ref a1), .val (.ref a2)] [])) _
    refine XS.aloadN X3.here hx rfl (hb hby d9_10) rfl rfl ?_
    show Steps p.tables e below (T3.setTop (mkF m 11 #[.val (.ref a1), .val (.ref a2)] [(.ref a1)])) _
    refine XS.aloadN X3.here hx rfl (hb hby d9_11) rfl rfl ?_
    show Steps p.tables e below (T3.setTop (mkF m 12 #[.val (.ref a1), .val (.ref a2)] [(.ref a2), (.ref a1)])) _
    refine XS.aloadN X3.here hx rfl (hb hby d9_12) rfl rfl ?_
    show Steps p.tables e below (T3.setTop (mkF m 13 #[.val (.ref a1), .val (.ref a2)] [(.ref a1), (.ref a2), (.ref a1)])) _
    refine st11 _ ?_
    show Steps p.tables e below (T11.setTop (mkF m 16 #[.val (.ref a1), .val (.ref a2)] [(.ref ed), (.ref a2), (.ref a1)])) _
    refine XS.aloadN X11.here hx rfl (hb hby d9_16) rfl rfl ?_
    show Steps p.tables e below (T11.setTop (mkF m 17 #[.val (.ref a1), .val (.ref a2)] [(.ref a1), (.ref ed), (.ref a2), (.ref a1)])) _
    refine st12 _ ?_
    show Steps p.tables e below (T12.setTop (mkF m 20 #[.val (.ref a1), .val (.ref a2)] [(.int (2 : Int32)), (.ref ed), (.ref a2), (.ref a1)])) _
    refine st13.trans ?_
    show Steps p.tables e below (T13.setTop (mkF m 23 #[.val (.ref a1), .val (.ref a2)] [])) _
    refine XS.iconst X13.here hx rfl (hb hby d9_23) ?_
    exact k)
  obtain ⟨fs, hr, hrun, hended, hW, hsame⟩ := X13.leave (v := some (.int (1 : Int32))) (fun h => by rw [Bd.returns] at h; cases h) (BodyLoose.notSynchronized Bd)
  refine ⟨_, _, k18 _ ?_, hrun, hended, _, _, rfl, ?_, ⟨_, rfl⟩, hW, hsame.mono (by decide) (by decide)⟩
  · show Steps p.tables e below (T13.setTop (mkF m 24 #[.val (.ref a1), .val (.ref a2)] [(.int (1 : Int32))])) _
    exact retN X13 hx (t := .boolean) Bd.returns (by simp) (hb hby d9_24) hr
  ·
    show Qadd1n2 _ a1 a2 ed mc h0 n0 _ T13.heap _
    exact ⟨rfl, N13, K14, Sg, Dg⟩
theorem d14_0 : decode prog_45_method_11_code 0 = .ok (.ldc2_w 293, 3) := by decide +kernel
theorem d14_3 : decode prog_45_method_11_code 3 = .ok (.aload_n 0, 1) := by decide +kernel
theorem d14_4 : decode prog_45_method_11_code 4 = .ok (.arraylength, 1) := by decide +kernel
theorem d14_5 : decode prog_45_method_11_code 5 = .ok (.i2l, 1) := by decide +kernel
theorem d14_6 : decode prog_45_method_11_code 6 = .ok (.ladd, 1) := by decide +kernel
theorem d14_7 : decode prog_45_method_11_code 7 = .ok (.lreturn, 1) := by decide +kernel
theorem pn_14 : plainName "com/example/lumenbus/lumenbus/log/Segment" = true := by first | (simp [plainName, overriddenIn]; done) | decide +kernel
theorem ef_bytesOf (m : MethodId) (x0 : Addr) : entryFrame m #[(.ref x0)] 1 = mkF m 0 #[.val (.ref x0)] [] := by first | (simp [entryFrame, mkF, argsToLocals, Value.category]; done) | rfl
def QbytesOf (Z : State) (a1 : Addr) (kb : ClassId) (zb : Int32) (vs : List Value) (dv : Value) (h0 : Heap) (n0 : Nat) (v : Option Value) (h : Heap) (L : List Loc) : Prop := v = some (.long ((24 : Int64) + (zb.toInt64))) ∧ Fr n0 L ∧ h = h0
set_option maxRecDepth 65536 in
set_option maxHeartbeats 40000000 in
theorem rm_bytesOf (l : Launch) (Z : State) (a0 : Array Value) (hw : ∀ d ∈ tables_1, d.before a0 Z = true) (ws : List Jvm.Cond) (a1 : Addr) (kb : ClassId) (zb : Int32) (vs : List Value) (dv : Value) (h0 : Heap) (n0 : Nat) (Z0 : n0 ≤ h0.size) (V1 : Arv Z h0 a1 kb .byte zb vs dv) :
    MetFree l (⟨"com/example/lumenbus/lumenbus/log/Segment", "bytesOf", "([B)J"⟩ : MethodName) (head1 (Jvm.Cond.code (⟨"com/example/lumenbus/lumenbus/log/Segment", "bytesOf", "([B)J"⟩ : MethodName) prog_45_method_11_code 1 (some .long) :: ws) ({ frames := 0, cells := 0, slots := 0, locals := 0 } : Room)) (fun a U => a = #[(.ref a1)] ∧ Z.Warmed39 U.vm ∧ U.heap = h0) (fun _ _ _ _ _ => True) (fun _ U o U' => ∃ v L, o = .returned v ∧ QbytesOf Z a1 kb zb vs dv h0 n0 v U'.heap L ∧ FrameEnd U o U' L ({ frames := 0, cells := 0, slots := 0, locals := 0 } : Room).cells ({ frames := 0, cells := 0, slots := 0, locals := 0 } : Room).slots) := by
  refine MetFree.of_bodySF (plainFor_of_name pn_14) hisR ?_
  intro p e s m args below meth c s₁ Bd hml0 hP hK
  obtain ⟨rfl, hZ, hh⟩ := hP
  have hx := Bd.exec
  have hby := Bd.bytes
  have hml : c.maxLocals = 1 := hml0
  have hown : s.vm.findClass "com/example/lumenbus/lumenbus/log/Segment" = some m.cls := findClass_of_methodNamed Bd.named
  have hnm := (name_of_methodNamed Bd.named Bd.method).1
  have X0 : Stand p l e ({ frames := 0, cells := 0, slots := 0, locals := 0 } : Room) s m #[(.ref a1)] below meth c s₁ [] 0 0 := Stand.of_body Bd
  have e0 : s₁.heap = h0 := by rw [← hh, Bd.state]; rfl
  have N0 := Fr.nil n0
  have k0 : ∀ t, Steps p.tables e below (s₁.setTop (mkF m 0 #[.val (.ref a1)] [])) t → Steps p.tables e below (s₁.setTop (entryFrame m #[(.ref a1)] 1)) t := fun t k => castTop (ef_bytesOf m a1) k
  have k2 : ∀ t, Steps p.tables e below (s₁.setTop (mkF m 7 #[.val (.ref a1)] [(.long ((24 : Int64) + (zb.toInt64)))])) t → Steps p.tables e below (s₁.setTop (entryFrame m #[(.ref a1)] 1)) t := fun t k => k0 t (by
    show Steps p.tables e below (s₁.setTop (mkF m 0 #[.val (.ref a1)] [])) _
    refine X0.ldc2Long hx hown (mvT hZ (hw _ (List.mem_of_getElem? (i := 99) rfl))) (g := (mkF m 0 #[.val (.ref a1)] [])) rfl (hb hby d14_0) _ ?_
    show Steps p.tables e below (s₁.setTop (mkF m 3 #[.val (.ref a1)] [(.long (24 : Int64))])) _
    refine XS.aloadN X0.here hx rfl (hb hby d14_3) rfl rfl ?_
    show Steps p.tables e below (s₁.setTop (mkF m 4 #[.val (.ref a1)] [(.ref a1), (.long (24 : Int64))])) _
    refine own_len X0 hx hZ e0 V1 (g := (mkF m 4 #[.val (.ref a1)] [(.ref a1), (.long (24 : Int64))])) rfl rfl (hb hby d14_4) _ ?_
    show Steps p.tables e below (s₁.setTop (mkF m 5 #[.val (.ref a1)] [(.int zb), (.long (24 : Int64))])) _
    refine XS.i2l X0.here hx rfl (hb hby d14_5) rfl ?_
    show Steps p.tables e below (s₁.setTop (mkF m 6 #[.val (.ref a1)] [(.long (zb.toInt64)), (.long (24 : Int64))])) _
    refine XS.ladd X0.here hx rfl (hb hby d14_6) rfl ?_
    exact k)
  obtain ⟨fs, hr, hrun, hended, hW, hsame⟩ := X0.leave (v := some (.long ((24 : Int64) + (zb.toInt64)))) (fun h => by rw [Bd.returns] at h; cases h) (BodyLoose.notSynchronized Bd)
  refine ⟨_, _, k2 _ ?_, hrun, hended, _, _, rfl, ?_, ⟨_, rfl⟩, hW, hsame.mono (by decide) (by decide)⟩
  · show Steps p.tables e below (s₁.setTop (mkF m 7 #[.val (.ref a1)] [(.long ((24 : Int64) + (zb.toInt64)))])) _
    exact X0.lreturnOut hx Bd.returns (hb hby d14_7) hr
  ·
    show QbytesOf _ a1 kb zb vs dv h0 n0 _ s₁.heap _
    rw [e0]
    exact ⟨rfl, N0, rfl⟩
abbrev own_B (Z : State) (h : Heap) (a al ts : Addr) (kt : ClassId) (TS : List Int64) (bt : Int64) : Prop := Exa Z h a "com/example/lumenbus/lumenbus/log/Batch" ∧ Fld Z h a "com/example/lumenbus/lumenbus/log/Batch" "payloads" "Ljava/util/List;" (.ref al) ∧ Fld Z h a "com/example/lumenbus/lumenbus/log/Batch" "timestamps" "[J" (.ref ts) ∧ Fld Z h a "com/example/lumenbus/lumenbus/log/Batch" "bytes" "J" (.long bt) ∧ Arv Z h ts kt .long 16 (TS.map Value.long) (.long 0)
theorem pd___I : parseMethodDescriptor "()I" = some ⟨[], some .int⟩ := by decide +kernel
theorem pd__Ljava_lang_Object__Z : parseMethodDescriptor "(Ljava/lang/Object;)Z" = some ⟨[(.object "java/lang/Object")], some .boolean⟩ := by decide +kernel
theorem pd___B_J : parseMethodDescriptor "([B)J" = some ⟨[(.array .byte)], some .long⟩ := by decide +kernel
theorem d7_0 : decode prog_31_method_5_code 0 = .ok (.aload_n 0, 1) := by decide +kernel
theorem d7_1 : decode prog_31_method_5_code 1 = .ok (.getfield 10, 3) := by decide +kernel
theorem d7_4 : decode prog_31_method_5_code 4 = .ok (.invokeinterface 39 1, 5) := by decide +kernel
theorem d7_9 : decode prog_31_method_5_code 9 = .ok (.aload_n 0, 1) := by decide +kernel
theorem d7_10 : decode prog_31_method_5_code 10 = .ok (.getfield 16, 3) := by decide +kernel
theorem d7_13 : decode prog_31_method_5_code 13 = .ok (.arraylength, 1) := by decide +kernel
theorem d7_14 : decode prog_31_method_5_code 14 = .ok (.if_icmp .ne 21, 3) := by decide +kernel
theorem d7_35 : decode prog_31_method_5_code 35 = .ok (.aload_n 0, 1) := by decide +kernel
theorem d7_36 : decode prog_31_method_5_code 36 = .ok (.getfield 16, 3) := by decide +kernel
theorem d7_39 : decode prog_31_method_5_code 39 = .ok (.aload_n 0, 1) := by decide +kernel
theorem d7_40 : decode prog_31_method_5_code 40 = .ok (.getfield 10, 3) := by decide +kernel
theorem d7_43 : decode prog_31_method_5_code 43 = .ok (.invokeinterface 39 1, 5) := by decide +kernel
theorem d7_48 : decode prog_31_method_5_code 48 = .ok (.lload_n 1, 1) := by decide +kernel
theorem d7_49 : decode prog_31_method_5_code 49 = .ok (.lastore, 1) := by decide +kernel
theorem d7_50 : decode prog_31_method_5_code 50 = .ok (.aload_n 0, 1) := by decide +kernel
theorem d7_51 : decode prog_31_method_5_code 51 = .ok (.getfield 10, 3) := by decide +kernel
theorem d7_54 : decode prog_31_method_5_code 54 = .ok (.aload_n 3, 1) := by decide +kernel
theorem d7_55 : decode prog_31_method_5_code 55 = .ok (.invokeinterface 51 2, 5) := by decide +kernel
theorem d7_60 : decode prog_31_method_5_code 60 = .ok (.pop, 1) := by decide +kernel
theorem d7_61 : decode prog_31_method_5_code 61 = .ok (.aload_n 0, 1) := by decide +kernel
theorem d7_62 : decode prog_31_method_5_code 62 = .ok (.dup, 1) := by decide +kernel
theorem d7_63 : decode prog_31_method_5_code 63 = .ok (.getfield 55, 3) := by decide +kernel
theorem d7_66 : decode prog_31_method_5_code 66 = .ok (.aload_n 3, 1) := by decide +kernel
theorem d7_67 : decode prog_31_method_5_code 67 = .ok (.invokestatic 59, 3) := by decide +kernel
theorem d7_70 : decode prog_31_method_5_code 70 = .ok (.ladd, 1) := by decide +kernel
theorem d7_71 : decode prog_31_method_5_code 71 = .ok (.putfield 55, 3) := by decide +kernel
theorem d7_74 : decode prog_31_method_5_code 74 = .ok (.return_, 1) := by decide +kernel
theorem pn_7 : plainName "com/example/lumenbus/lumenbus/log/Batch" = true := by first | (simp [plainName, overriddenIn]; done) | decide +kernel
theorem ef_put0 (m : MethodId) (x0 : Addr) (x1 : Int64) (x2 : Addr) : entryFrame m #[(.ref x0), (.long x1), (.ref x2)] 4 = mkF m 0 #[.val (.ref x0), .val (.long x1), .second, .val (.ref x2)] [] := by first | (simp [entryFrame, mkF, argsToLocals, Value.category]; done) | rfl
def Qput0 (Z : State) (a1 : Addr) (q2 : Int64) (a3 : Addr) (al : Addr) (ts : Addr) (kt : ClassId) (TS : List Int64) (bt : Int64) (mc : Int32) (w : Addr) (kw : ClassId) (kb : ClassId) (zb : Int32) (vs : List Value) (dv : Value) (h0 : Heap) (n0 : Nat) (v : Option Value) (h : Heap) (L : List Loc) : Prop := v = none ∧ Fr n0 L ∧ Keep h0 h [a1, al, ts] ∧ ∃ (ed' : Addr) (bt' : Int64), h0.size ≤ ed' ∧ own_B Z h a1 al ts kt (TS.set 0 q2) bt' ∧ own_AL Z h al (.ref ed') 1 (mc + 1) ∧ own_ED Z h ed'
set_option maxRecDepth 65536 in
set_option maxHeartbeats 40000000 in
theorem rm_put0 (l : Launch) (Z : State) (a0 : Array Value) (hw : ∀ d ∈ tables_1, d.before a0 Z = true) (ws : List Jvm.Cond) (a1 : Addr) (q2 : Int64) (a3 : Addr) (al : Addr) (ts : Addr) (kt : ClassId) (TS : List Int64) (bt : Int64) (mc : Int32) (w : Addr) (kw : ClassId) (kb : ClassId) (zb : Int32) (vs : List Value) (dv : Value) (h0 : Heap) (n0 : Nat) (Z0 : n0 ≤ h0.size) (SB : own_B Z h0 a1 al ts kt TS bt) (SL : own_AL Z h0 al (.ref w) 0 mc) (E_a3 : Exa Z h0 a3 "[B") (V_a3 : Arv Z h0 a3 kb .byte zb vs dv) (O0 : Old Z n0 h0) (lT : TS.length = 16) (g_a1 : n0 ≤ a1) (g_al : n0 ≤ al) (g_ts : n0 ≤ ts) (n1 : a1 ≠ al) (n2 : a1 ≠ ts) (n3 : al ≠ ts) (n4 : a3 ≠ a1) (n5 : a3 ≠ al) (n6 : a3 ≠ ts) (S0 : Sta Z Z.heap "java/util/ArrayList" "DEFAULTCAPACITY_EMPTY_ELEMENTDATA" "[Ljava/lang/Object;" (.ref w)) (A0 : Arv Z Z.heap w kw (.object "java/lang/Object") 0 [] .null) :
    MetFree l (⟨"com/example/lumenbus/lumenbus/log/Batch", "put", "(J[B)V"⟩ : MethodName) (head1 (Jvm.Cond.code (⟨"com/example/lumenbus/lumenbus/log/Batch", "put", "(J[B)V"⟩ : MethodName) prog_31_method_5_code 4 none :: ws) ({ frames := 5, cells := 1, slots := 10, locals := 69 } : Room)) (fun a U => a = #[(.ref a1), (.long q2), (.ref a3)] ∧ Z.Warmed39 U.vm ∧ U.heap = h0) (fun _ _ _ _ _ => True) (fun _ U o U' => ∃ v L, o = .returned v ∧ Qput0 Z a1 q2 a3 al ts kt TS bt mc w kw kb zb vs dv h0 n0 v U'.heap L ∧ FrameEnd U o U' L ({ frames := 5, cells := 1, slots := 10, locals := 69 } : Room).cells ({ frames := 5, cells := 1, slots := 10, locals := 69 } : Room).slots) := by
  refine MetFree.of_bodySF (plainFor_of_name pn_7) hisR ?_
  intro p e s m args below meth c s₁ Bd hml0 hP hK
  obtain ⟨rfl, hZ, hh⟩ := hP
  have hx := Bd.exec
  have hby := Bd.bytes
  have hml : c.maxLocals = 4 := hml0
  have hown : s.vm.findClass "com/example/lumenbus/lumenbus/log/Batch" = some m.cls := findClass_of_methodNamed Bd.named
  have hnm := (name_of_methodNamed Bd.named Bd.method).1
  have X0 : Stand p l e ({ frames := 5, cells := 1, slots := 10, locals := 69 } : Room) s m #[(.ref a1), (.long q2), (.ref a3)] below meth c s₁ [] 0 0 := Stand.of_body Bd
  have e0 : s₁.heap = h0 := by rw [← hh, Bd.state]; rfl
  have N0 := Fr.nil n0
  have k0 : ∀ t, Steps p.tables e below (s₁.setTop (mkF m 0 #[.val (.ref a1), .val (.long q2), .second, .val (.ref a3)] [])) t → Steps p.tables e below (s₁.setTop (entryFrame m #[(.ref a1), (.long q2), (.ref a3)] 4)) t := fun t k => castTop (ef_put0 m a1 q2 a3) k
  obtain ⟨E1, F1a, F1b, F1c, V1⟩ := SB
  obtain ⟨E2, F2a, F2b, F2c⟩ := SL
  obtain ⟨T3, X3, e3, st3⟩ := getF X0 hx hZ hown (host := "") (Or.inl (hw _ (List.mem_of_getElem? (i := 35) rfl))) Via.refl e0 F1a (g := (mkF m 1 #[.val (.ref a1), .val (.long q2), .second, .val (.ref a3)] [(.ref a1)])) rfl rfl (hb hby d7_1)
  obtain ⟨cq4, kq4, q4a, q4b, q4c⟩ := isOf hZ e3 E2
  obtain ⟨_, _, ⟨T4, L4, kk4, n4⟩, -, X4, ⟨Lc4, hQ4, l4, y4, z4⟩, st4⟩ := X3.interfaceBack hx (xi := (⟨"java/util/List", "size", "()I"⟩ : MethodName)) (y := (⟨"java/util/ArrayList", "size", "()I"⟩ : MethodName)) hown (mvT hZ (hw _ (List.mem_of_getElem? (i := 50) rfl))) (mvT hZ (hw _ (List.mem_of_getElem? (i := 51) rfl))) (mvT hZ (hw _ (List.mem_of_getElem? (i := 52) rfl))) (mvT hZ (hw _ (List.mem_of_getElem? (i := 53) rfl))) (mvT hZ (hw _ (List.mem_of_getElem? (i := 54) rfl))) (mvT hZ (hw _ (List.mem_of_getElem? (i := 55) rfl))) (mvT hZ (hw _ (List.mem_of_getElem? (i := 56) rfl))) (mvT hZ (hw _ (List.mem_of_getElem? (i := 57) rfl))) (by decide) (backOf (W := 0) (rm_size l Z a0 hw [] al (0 : Int32) h0 n0 Z0 F2b) hZ (hw _ (List.mem_of_getElem? (i := 58) rfl)) (hw _ (List.mem_of_getElem? (i := 13) rfl)) (by decide) (by decide)) q4a q4b q4c (g := (mkF m 4 #[.val (.ref a1), .val (.long q2), .second, .val (.ref a3)] [(.ref al)])) rfl (by rw [hml]; rfl) (Steps.refl _) (argsL := []) (rest := []) (lenOf pd___I rfl) rfl (by show 2 * 0 + _ ≤ _; exact Nat.le_of_eq rfl) (hb hby d7_4) (fun _ _ => ⟨rfl, e3, (by decide : 0 + 0 ≤ _), (by decide : 0 + 0 ≤ _)⟩)
  dsimp only [Pt.U, Pt.locs, Pt.cells, Pt.slots] at X4 l4 y4 z4 st4 hQ4
  subst l4 y4 z4
  obtain ⟨rfl, N4q, qs1⟩ := hQ4
  have N4 := Fr.app N0 N4q
  obtain ⟨T5, X5, e5, st5⟩ := getF X4 hx hZ hown (host := "") (Or.inl (hw _ (List.mem_of_getElem? (i := 38) rfl))) Via.refl qs1 F1b (g := (mkF m 10 #[.val (.ref a1), .val (.long q2), .second, .val (.ref a3)] [(.ref a1), (.int (0 : Int32))])) rfl rfl (hb hby d7_10)
  obtain ⟨T6, X6, e6, st6⟩ := getF X5 hx hZ hown (host := "") (Or.inl (hw _ (List.mem_of_getElem? (i := 38) rfl))) Via.refl e5 F1b (g := (mkF m 36 #[.val (.ref a1), .val (.long q2), .second, .val (.ref a3)] [(.ref a1)])) rfl rfl (hb hby d7_36)
  obtain ⟨T7, X7, e7, st7⟩ := getF X6 hx hZ hown (host := "") (Or.inl (hw _ (List.mem_of_getElem? (i := 35) rfl))) Via.refl e6 F1a (g := (mkF m 40 #[.val (.ref a1), .val (.long q2), .second, .val (.ref a3)] [(.ref a1), (.ref ts)])) rfl rfl (hb hby d7_40)
  obtain ⟨cq8, kq8, q8a, q8b, q8c⟩ := isOf hZ e7 E2
  obtain ⟨_, _, ⟨T8, L8, kk8, n8⟩, -, X8, ⟨Lc8, hQ8, l8, y8, z8⟩, st8⟩ := X7.interfaceBack hx (xi := (⟨"java/util/List", "size", "()I"⟩ : MethodName)) (y := (⟨"java/util/ArrayList", "size", "()I"⟩ : MethodName)) hown (mvT hZ (hw _ (List.mem_of_getElem? (i := 50) rfl))) (mvT hZ (hw _ (List.mem_of_getElem? (i := 51) rfl))) (mvT hZ (hw _ (List.mem_of_getElem? (i := 52) rfl))) (mvT hZ (hw _ (List.mem_of_getElem? (i := 53) rfl))) (mvT hZ (hw _ (List.mem_of_getElem? (i := 54) rfl))) (mvT hZ (hw _ (List.mem_of_getElem? (i := 55) rfl))) (mvT hZ (hw _ (List.mem_of_getElem? (i := 56) rfl))) (mvT hZ (hw _ (List.mem_of_getElem? (i := 57) rfl))) (by decide) (backOf (W := 1) (rm_size l Z a0 hw [] al (0 : Int32) h0 n0 Z0 F2b) hZ (hw _ (List.mem_of_getElem? (i := 58) rfl)) (hw _ (List.mem_of_getElem? (i := 13) rfl)) (by decide) (by decide)) q8a q8b q8c (g := (mkF m 43 #[.val (.ref a1), .val (.long q2), .second, .val (.ref a3)] [(.ref al), (.ref ts)])) rfl (by rw [hml]; rfl) (Steps.refl _) (argsL := []) (rest := [(.ref ts)]) (lenOf pd___I rfl) rfl (by show 2 * 0 + _ ≤ _; exact Nat.le_of_eq rfl) (hb hby d7_43) (fun _ _ => ⟨rfl, e7, (by decide : 0 + 0 ≤ _), (by decide : 0 + 0 ≤ _)⟩)
  dsimp only [Pt.U, Pt.locs, Pt.cells, Pt.slots] at X8 l8 y8 z8 st8 hQ8
  subst l8 y8 z8
  obtain ⟨rfl, N8q, qs2⟩ := hQ8
  have N8 := Fr.app N4 N8q
  obtain ⟨T9, h9, X9, e9, W9, Vn9, st9⟩ := own_stJ X8 hx hZ qs2 V1 (j := (0 : Int32)) (by decide) (by rw [lT]; decide) (g := (mkF m 49 #[.val (.ref a1), .val (.long q2), .second, .val (.ref a3)] [(.long q2), (.int (0 : Int32)), (.ref ts)])) rfl rfl (hb hby d7_49)
  have N9 := Fr.snoc X9 N8 g_ts
  have V10 : Arv Z h9 ts kt .long (16 : Int32) ((TS.set (0 : Int32).toNatClampNeg q2).map Value.long) (.long 0) := Vn9
  have O11 : Old Z n0 h9 := O0.wr W9 g_ts
  have E12 : Exa Z h9 a3 "[B" := E_a3.wr W9
  have V13 : Arv Z h9 a3 kb .byte zb vs dv := V_a3.other W9 n6
  have E14 : Exa Z h9 a1 "com/example/lumenbus/lumenbus/log/Batch" := E1.wr W9
  have F15 : Fld Z h9 a1 "com/example/lumenbus/lumenbus/log/Batch" "payloads" "Ljava/util/List;" (.ref al) := F1a.other W9 (Or.inl n2)
  have F16 : Fld Z h9 a1 "com/example/lumenbus/lumenbus/log/Batch" "timestamps" "[J" (.ref ts) := F1b.other W9 (Or.inl n2)
  have F17 : Fld Z h9 a1 "com/example/lumenbus/lumenbus/log/Batch" "bytes" "J" (.long bt) := F1c.other W9 (Or.inl n2)
  have E18 : Exa Z h9 al "java/util/ArrayList" := E2.wr W9
  have F19 : Fld Z h9 al "java/util/ArrayList" "elementData" "[Ljava/lang/Object;" (.ref w) := F2a.other W9 (Or.inl n3)
  have F20 : Fld Z h9 al "java/util/ArrayList" "size" "I" (.int (0 : Int32)) := F2b.other W9 (Or.inl n3)
  have F21 : Fld Z h9 al "java/util/AbstractList" "modCount" "I" (.int mc) := F2c.other W9 (Or.inl n3)
  have K22 : Keep h0 h9 [a1, al, ts] := (Keep.refl h0 [a1, al, ts]).wr W9 (Or.inl (List.mem_of_getElem? (i := 2) rfl))
  have ixt : (0 : Int32).toNatClampNeg = 0 := by decide
  rw [ixt] at V10
  have V23 : Arv Z h9 ts kt .long (16 : Int32) ((TS.set 0 q2).map Value.long) (.long 0) := V10
  obtain ⟨T24, X24, e24, st24⟩ := getF X9 hx hZ hown (host := "") (Or.inl (hw _ (List.mem_of_getElem? (i := 35) rfl))) Via.refl e9 F15 (g := (mkF m 51 #[.val (.ref a1), .val (.long q2), .second, .val (.ref a3)] [(.ref a1)])) rfl rfl (hb hby d7_51)
  obtain ⟨cq25, kq25, q25a, q25b, q25c⟩ := isOf hZ e24 E18
  obtain ⟨_, _, ⟨T25, L25, kk25, n25⟩, -, X25, ⟨Lc25, hQ25, l25, y25, z25⟩, st25⟩ := X24.interfaceBack hx (xi := (⟨"java/util/List", "add", "(Ljava/lang/Object;)Z"⟩ : MethodName)) (y := (⟨"java/util/ArrayList", "add", "(Ljava/lang/Object;)Z"⟩ : MethodName)) hown (mvT hZ (hw _ (List.mem_of_getElem? (i := 61) rfl))) (mvT hZ (hw _ (List.mem_of_getElem? (i := 62) rfl))) (mvT hZ (hw _ (List.mem_of_getElem? (i := 63) rfl))) (mvT hZ (hw _ (List.mem_of_getElem? (i := 64) rfl))) (mvT hZ (hw _ (List.mem_of_getElem? (i := 65) rfl))) (mvT hZ (hw _ (List.mem_of_getElem? (i := 66) rfl))) (mvT hZ (hw _ (List.mem_of_getElem? (i := 67) rfl))) (mvT hZ (hw _ (List.mem_of_getElem? (i := 57) rfl))) (by decide) (backOf (W := 0) (rm_add1a l Z a0 hw [] al a3 w kw mc h9 n0 (Nat.le_trans Z0 K22.1) ⟨E18, F19, F20, F21⟩ g_al S0 A0 O11 E12 (Ne.symm n5)) hZ (hw _ (List.mem_of_getElem? (i := 68) rfl)) (hw _ (List.mem_of_getElem? (i := 13) rfl)) (by decide) (by decide)) q25a q25b q25c (g := (mkF m 55 #[.val (.ref a1), .val (.long q2), .second, .val (.ref a3)] [(.ref a3), (.ref al)])) rfl (by rw [hml]; rfl) (Steps.refl _) (argsL := [(.ref a3)]) (rest := []) (lenOf pd__Ljava_lang_Object__Z rfl) rfl (by show 2 * 0 + _ ≤ _; exact Nat.le_of_eq rfl) (hb hby d7_55) (fun _ _ => ⟨rfl, e24, (by decide : 0 + 1 ≤ _), (by decide : 0 + 10 ≤ _)⟩)
  dsimp only [Pt.U, Pt.locs, Pt.cells, Pt.slots] at X25 l25 y25 z25 st25 hQ25
  subst l25 y25 z25
  obtain ⟨rfl, N25q, Kp, ed', ze, Sl, De⟩ := hQ25
  have N25 := Fr.app N9 N25q
  have K26 : Keep h0 T25.heap [a1, al, ts] := K22.trans Kp (allS (Or.inl (List.mem_of_getElem? (i := 1) rfl)) all0)
  have O27 : Old Z n0 T25.heap := O11.keep Kp (allS g_al all0)
  have E28 : Exa Z T25.heap a3 "[B" := E12.keep Kp
  have V29 : Arv Z T25.heap a3 kb .byte zb vs dv := V13.keep Kp (ninS n5 nin0)
  have E30 : Exa Z T25.heap a1 "com/example/lumenbus/lumenbus/log/Batch" := E14.keep Kp
  have F31 : Fld Z T25.heap a1 "com/example/lumenbus/lumenbus/log/Batch" "payloads" "Ljava/util/List;" (.ref al) := F15.keep Kp (ninS n1 nin0)
  have F32 : Fld Z T25.heap a1 "com/example/lumenbus/lumenbus/log/Batch" "timestamps" "[J" (.ref ts) := F16.keep Kp (ninS n1 nin0)
  have F33 : Fld Z T25.heap a1 "com/example/lumenbus/lumenbus/log/Batch" "bytes" "J" (.long bt) := F17.keep Kp (ninS n1 nin0)
  have V34 : Arv Z T25.heap ts kt .long (16 : Int32) ((TS.set 0 q2).map Value.long) (.long 0) := V23.keep Kp (ninS (Ne.symm n3) nin0)
  have E35 : Exa Z T25.heap al "java/util/ArrayList" := E18.keep Kp
  have sze : h0.size ≤ ed' := Nat.le_trans K22.1 ze
  have m1 : a1 ≠ ed' := Nat.ne_of_lt (Nat.lt_of_lt_of_le E14.lt ze)
  have m2 : al ≠ ed' := Nat.ne_of_lt (Nat.lt_of_lt_of_le E18.lt ze)
  obtain ⟨E36, F36a, F36b, F36c⟩ := Sl
  obtain ⟨T37, X37, e37, st37⟩ := getF X25 hx hZ hown (host := "") (Or.inl (hw _ (List.mem_of_getElem? (i := 93) rfl))) Via.refl rfl F33 (g := (mkF m 63 #[.val (.ref a1), .val (.long q2), .second, .val (.ref a3)] [(.ref a1), (.ref a1)])) rfl rfl (hb hby d7_63)
  obtain ⟨_, _, ⟨T38, L38, kk38, n38⟩, -, X38, ⟨Lc38, hQ38, l38, y38, z38⟩, st38⟩ := Jvm.LawKit.callS X37 hx (y := (⟨"com/example/lumenbus/lumenbus/log/Segment", "bytesOf", "([B)J"⟩ : MethodName)) hown (mvT hZ (hw _ (List.mem_of_getElem? (i := 95) rfl))) (mvT hZ (hw _ (List.mem_of_getElem? (i := 96) rfl))) (mvT hZ (hw _ (List.mem_of_getElem? (i := 97) rfl))) (mvT hZ (hw _ (List.mem_of_getElem? (i := 98) rfl))) (by decide) (backOf (W := 3) (rm_bytesOf l Z a0 hw [] a3 kb zb vs dv T25.heap n0 (Nat.le_trans Z0 K26.1) V29) hZ (hw _ (List.mem_of_getElem? (i := 98) rfl)) (hw _ (List.mem_of_getElem? (i := 97) rfl)) (by decide) (by decide)) (g := (mkF m 67 #[.val (.ref a1), .val (.long q2), .second, .val (.ref a3)] [(.ref a3), (.long bt), (.ref a1)])) rfl (by rw [hml]; rfl) (argsL := [(.ref a3)]) (rest := [(.long bt), (.ref a1)]) (lenOf pd___B_J rfl) rfl (by show 2 * 0 + _ ≤ _; exact Nat.le_of_eq rfl) (hb hby d7_67) (fun _ _ => ⟨rfl, e37, (by decide : 1 + 0 ≤ _), (by decide : 10 + 0 ≤ _)⟩)
  dsimp only [Pt.U, Pt.locs, Pt.cells, Pt.slots] at X38 l38 y38 z38 st38 hQ38
  subst l38 y38 z38
  obtain ⟨rfl, N38q, qb⟩ := hQ38
  have N38 := Fr.app N25 N38q
  obtain ⟨T39, h39, X39, e39, W39, st39⟩ := putF X38 hx hZ hown (host := "") (Or.inl (hw _ (List.mem_of_getElem? (i := 93) rfl))) Via.refl qb F33 E30 (Or.inl (hw _ (List.mem_of_getElem? (i := 94) rfl))) (hw _ (List.mem_of_getElem? (i := 3) rfl)) (ty := .long) (by decide) rfl rfl (g := (mkF m 71 #[.val (.ref a1), .val (.long q2), .second, .val (.ref a3)] [(.long (bt + ((24 : Int64) + (zb.toInt64)))), (.ref a1)])) rfl rfl (hb hby d7_71)
  have N39 := Fr.snoc X39 N38 g_a1
  have F40 : Fld Z h39 a1 "com/example/lumenbus/lumenbus/log/Batch" "bytes" "J" (.long (bt + ((24 : Int64) + (zb.toInt64)))) := F33.same W39
  have O41 : Old Z n0 h39 := O27.wr W39 g_a1
  have E42 : Exa Z h39 a3 "[B" := E28.wr W39
  have V43 : Arv Z h39 a3 kb .byte zb vs dv := V29.other W39 n4
  have E44 : Exa Z h39 a1 "com/example/lumenbus/lumenbus/log/Batch" := E30.wr W39
  have F45 : Fld Z h39 a1 "com/example/lumenbus/lumenbus/log/Batch" "payloads" "Ljava/util/List;" (.ref al) := F31.other W39 (Or.inr (slot_ne (Or.inr (hw _ (List.mem_of_getElem? (i := 36) rfl))) (Or.inl (hw _ (List.mem_of_getElem? (i := 94) rfl))) (by decide) (t := (.object "java/util/List")) (t' := .long) (by decide) (by decide)))
  have F46 : Fld Z h39 a1 "com/example/lumenbus/lumenbus/log/Batch" "timestamps" "[J" (.ref ts) := F32.other W39 (Or.inr (slot_ne (Or.inl (hw _ (List.mem_of_getElem? (i := 39) rfl))) (Or.inl (hw _ (List.mem_of_getElem? (i := 94) rfl))) (by decide) (t := (.array .long)) (t' := .long) (by decide) (by decide)))
  have V47 : Arv Z h39 ts kt .long (16 : Int32) ((TS.set 0 q2).map Value.long) (.long 0) := V34.other W39 (Ne.symm n2)
  have E48 : Exa Z h39 al "java/util/ArrayList" := E36.wr W39
  have V49 : own_ED Z h39 ed' := De.other W39 (Ne.symm m1)
  have F50 : Fld Z h39 al "java/util/ArrayList" "elementData" "[Ljava/lang/Object;" (.ref ed') := F36a.other W39 (Or.inl (Ne.symm n1))
  have F51 : Fld Z h39 al "java/util/ArrayList" "size" "I" (.int (1 : Int32)) := F36b.other W39 (Or.inl (Ne.symm n1))
  have F52 : Fld Z h39 al "java/util/AbstractList" "modCount" "I" (.int (mc + 1)) := F36c.other W39 (Or.inl (Ne.symm n1))
  have K53 : Keep h0 h39 [a1, al, ts] := K26.wr W39 (Or.inl (List.mem_of_getElem? (i := 0) rfl))
  have k55 : ∀ t, Steps p.tables e below (T39.setTop (mkF m 74 #[.val (.ref a1), .val (.long q2), .second, .val (.ref a3)] [])) t → Steps p.tables e below (s₁.setTop (entryFrame m #[(.ref a1), (.long q2), (.ref a3)] 4)) t := fun t k => k0 t (by
    show Steps p.tables e below (s₁.setTop (mkF m 0 #[.val (.ref a1), .val (.long q2), .second, .val (.ref a3)] [])) _
    refine XS.aloadN X0.here hx rfl (hb hby d7_0) rfl rfl ?_
    show Steps p.tables e below (s₁.setTop (mkF m 1 #[.val (.ref a1), .val (.long q2), .second, .val (.ref a3)] [(.ref a1)])) _
    refine st3 _ ?_
    show Steps p.tables e below (T3.setTop (mkF m 4 #[.val (.ref a1), .val (.long q2), .second, .val (.ref a3)] [(.ref al)])) _
    refine st4.trans ?_
    show Steps p.tables e below (T4.setTop (mkF m 9 #[.val (.ref a1), .val (.long q2), .second, .val (.ref a3)] [(.int (0 : Int32))])) _
    refine XS.aloadN X4.here hx rfl (hb hby d7_9) rfl rfl ?_
    show Steps p.tables e below (T4.setTop (mkF m 10 #[.val (.ref a1), .val (.long q2), .second, .val (.ref a3)] [(.ref a1), (.int (0 : Int32))])) _
    refine st5 _ ?_
    show Steps p.tables e below (T5.setTop (mkF m 13 #[.val (.ref a1), .val (.long q2), .second, .val (.ref a3)] [(.ref ts), (.int (0 : Int32))])) _
    refine own_len X5 hx hZ e5 V1 (g := (mkF m 13 #[.val (.ref a1), .val (.long q2), .second, .val (.ref a3)] [(.ref ts), (.int (0 : Int32))])) rfl rfl (hb hby d7_13) _ ?_
    show Steps p.tables e below (T5.setTop (mkF m 14 #[.val (.ref a1), .val (.long q2), .second, .val (.ref a3)] [(.int (16 : Int32)), (.int (0 : Int32))])) _
    refine XS.icmpYes X5.here hx rfl (pc0 := 14) (pc' := 35) rfl (hb hby d7_14) rfl (feq (by decide)).2 (by decide) (by decide) ?_
    show Steps p.tables e below (T5.setTop (mkF m 35 #[.val (.ref a1), .val (.long q2), .second, .val (.ref a3)] [])) _
    refine XS.aloadN X5.here hx rfl (hb hby d7_35) rfl rfl ?_
    show Steps p.tables e below (T5.setTop (mkF m 36 #[.val (.ref a1), .val (.long q2), .second, .val (.ref a3)] [(.ref a1)])) _
    refine st6 _ ?_
    show Steps p.tables e below (T6.setTop (mkF m 39 #[.val (.ref a1), .val (.long q2), .second, .val (.ref a3)] [(.ref ts)])) _
    refine XS.aloadN X6.here hx rfl (hb hby d7_39) rfl rfl ?_
    show Steps p.tables e below (T6.setTop (mkF m 40 #[.val (.ref a1), .val (.long q2), .second, .val (.ref a3)] [(.ref a1), (.ref ts)])) _
    refine st7 _ ?_
    show Steps p.tables e below (T7.setTop (mkF m 43 #[.val (.ref a1), .val (.long q2), .second, .val (.ref a3)] [(.ref al), (.ref ts)])) _
    refine st8.trans ?_
    show Steps p.tables e below (T8.setTop (mkF m 48 #[.val (.ref a1), .val (.long q2), .second, .val (.ref a3)] [(.int (0 : Int32)), (.ref ts)])) _
    refine XS.lloadN X8.here hx rfl (hb hby d7_48) rfl ?_
    show Steps p.tables e below (T8.setTop (mkF m 49 #[.val (.ref a1), .val (.long q2), .second, .val (.ref a3)] [(.long q2), (.int (0 : Int32)), (.ref ts)])) _
    refine st9 _ ?_
    show Steps p.tables e below (T9.setTop (mkF m 50 #[.val (.ref a1), .val (.long q2), .second, .val (.ref a3)] [])) _
    refine XS.aloadN X9.here hx rfl (hb hby d7_50) rfl rfl ?_
    show Steps p.tables e below (T9.setTop (mkF m 51 #[.val (.ref a1), .val (.long q2), .second, .val (.ref a3)] [(.ref a1)])) _
    refine st24 _ ?_
    show Steps p.tables e below (T24.setTop (mkF m 54 #[.val (.ref a1), .val (.long q2), .second, .val (.ref a3)] [(.ref al)])) _
    refine XS.aloadN X24.here hx rfl (hb hby d7_54) rfl rfl ?_
    show Steps p.tables e below (T24.setTop (mkF m 55 #[.val (.ref a1), .val (.long q2), .second, .val (.ref a3)] [(.ref a3), (.ref al)])) _
    refine st25.trans ?_
    show Steps p.tables e below (T25.setTop (mkF m 60 #[.val (.ref a1), .val (.long q2), .second, .val (.ref a3)] [(.int (1 : Int32))])) _
    refine XS.pop X25.here hx rfl (hb hby d7_60) rfl rfl ?_
    show Steps p.tables e below (T25.setTop (mkF m 61 #[.val (.ref a1), .val (.long q2), .second, .val (.ref a3)] [])) _
    refine XS.aloadN X25.here hx rfl (hb hby d7_61) rfl rfl ?_
    show Steps p.tables e below (T25.setTop (mkF m 62 #[.val (.ref a1), .val (.long q2), .second, .val (.ref a3)] [(.ref a1)])) _
    refine XS.dup X25.here hx rfl (hb hby d7_62) rfl rfl ?_
    show Steps p.tables e below (T25.setTop (mkF m 63 #[.val (.ref a1), .val (.long q2), .second, .val (.ref a3)] [(.ref a1), (.ref a1)])) _
    refine st37 _ ?_
    show Steps p.tables e below (T37.setTop (mkF m 66 #[.val (.ref a1), .val (.long q2), .second, .val (.ref a3)] [(.long bt), (.ref a1)])) _
    refine XS.aloadN X37.here hx rfl (hb hby d7_66) rfl rfl ?_
    show Steps p.tables e below (T37.setTop (mkF m 67 #[.val (.ref a1), .val (.long q2), .second, .val (.ref a3)] [(.ref a3), (.long bt), (.ref a1)])) _
    refine st38 _ ?_
    show Steps p.tables e below (T38.setTop (mkF m 70 #[.val (.ref a1), .val (.long q2), .second, .val (.ref a3)] [(.long ((24 : Int64) + (zb.toInt64))), (.long bt), (.ref a1)])) _
    refine XS.ladd X38.here hx rfl (hb hby d7_70) rfl ?_
    show Steps p.tables e below (T38.setTop (mkF m 71 #[.val (.ref a1), .val (.long q2), .second, .val (.ref a3)] [(.long (bt + ((24 : Int64) + (zb.toInt64)))), (.ref a1)])) _
    refine st39 _ ?_
    exact k)
  obtain ⟨fs, hr, hrun, hended, hW, hsame⟩ := X39.leave (v := none) (fun _ => rfl) (BodyLoose.notSynchronized Bd)
  refine ⟨_, _, k55 _ ?_, hrun, hended, _, _, rfl, ?_, ⟨_, rfl⟩, hW, hsame.mono (by decide) (by decide)⟩
  · show Steps p.tables e below (T39.setTop (mkF m 74 #[.val (.ref a1), .val (.long q2), .second, .val (.ref a3)] [])) _
    exact X39.returnOut hx Bd.returns (hb hby d7_74) hr
  ·
    show Qput0 _ a1 q2 a3 al ts kt TS bt mc w kw kb zb vs dv h0 n0 _ T39.heap _
    rw [e39]
    exact ⟨rfl, N39, K53, ed', _, sze, ⟨E44, F45, F46, F40, V47⟩, ⟨E48, F50, F51, F52⟩, V49⟩
theorem ef_put1 (m : MethodId) (x0 : Addr) (x1 : Int64) (x2 : Addr) : entryFrame m #[(.ref x0), (.long x1), (.ref x2)] 4 = mkF m 0 #[.val (.ref x0), .val (.long x1), .second, .val (.ref x2)] [] := by first | (simp [entryFrame, mkF, argsToLocals, Value.category]; done) | rfl
def Qput1 (Z : State) (a1 : Addr) (q2 : Int64) (a3 : Addr) (al : Addr) (ts : Addr) (kt : ClassId) (TS : List Int64) (bt : Int64) (mc : Int32) (ed : Addr) (kb : ClassId) (zb : Int32) (vs : List Value) (dv : Value) (h0 : Heap) (n0 : Nat) (v : Option Value) (h : Heap) (L : List Loc) : Prop := v = none ∧ Fr n0 L ∧ Keep h0 h [a1, al, ts, ed] ∧ ∃ (bt' : Int64), own_B Z h a1 al ts kt (TS.set 1 q2) bt' ∧ own_AL Z h al (.ref ed) 2 (mc + 1) ∧ own_ED Z h ed
set_option maxRecDepth 65536 in
set_option maxHeartbeats 40000000 in
theorem rm_put1 (l : Launch) (Z : State) (a0 : Array Value) (hw : ∀ d ∈ tables_1, d.before a0 Z = true) (ws : List Jvm.Cond) (a1 : Addr) (q2 : Int64) (a3 : Addr) (al : Addr) (ts : Addr) (kt : ClassId) (TS : List Int64) (bt : Int64) (mc : Int32) (ed : Addr) (kb : ClassId) (zb : Int32) (vs : List Value) (dv : Value) (h0 : Heap) (n0 : Nat) (Z0 : n0 ≤ h0.size) (SB : own_B Z h0 a1 al ts kt TS bt) (SL : own_AL Z h0 al (.ref ed) 1 mc) (E_a3 : Exa Z h0 a3 "[B") (V_a3 : Arv Z h0 a3 kb .byte zb vs dv) (O0 : Old Z n0 h0) (lT : TS.length = 16) (g_a1 : n0 ≤ a1) (g_al : n0 ≤ al) (g_ts : n0 ≤ ts) (n1 : a1 ≠ al) (n2 : a1 ≠ ts) (n3 : al ≠ ts) (n4 : a3 ≠ a1) (n5 : a3 ≠ al) (n6 : a3 ≠ ts) (D1 : own_ED Z h0 ed) (g_ed : n0 ≤ ed) (n7 : a1 ≠ ed) (n8 : al ≠ ed) (n9 : ts ≠ ed) (n10 : a3 ≠ ed) :
    MetFree l (⟨"com/example/lumenbus/lumenbus/log/Batch", "put", "(J[B)V"⟩ : MethodName) (head1 (Jvm.Cond.code (⟨"com/example/lumenbus/lumenbus/log/Batch", "put", "(J[B)V"⟩ : MethodName) prog_31_method_5_code 4 none :: ws) ({ frames := 2, cells := 0, slots := 0, locals := 28 } : Room)) (fun a U => a = #[(.ref a1), (.long q2), (.ref a3)] ∧ Z.Warmed39 U.vm ∧ U.heap = h0) (fun _ _ _ _ _ => True) (fun _ U o U' => ∃ v L, o = .returned v ∧ Qput1 Z a1 q2 a3 al ts kt TS bt mc ed kb zb vs dv h0 n0 v U'.heap L ∧ FrameEnd U o U' L ({ frames := 2, cells := 0, slots := 0, locals := 28 } : Room).cells ({ frames := 2, cells := 0, slots := 0, locals := 28 } : Room).slots) := by
  refine MetFree.of_bodySF (plainFor_of_name pn_7) hisR ?_
  intro p e s m args below meth c s₁ Bd hml0 hP hK
  obtain ⟨rfl, hZ, hh⟩ := hP
  have hx := Bd.exec
  have hby := Bd.bytes
  have hml : c.maxLocals = 4 := hml0
  have hown : s.vm.findClass "com/example/lumenbus/lumenbus/log/Batch" = some m.cls := findClass_of_methodNamed Bd.named
  have hnm := (name_of_methodNamed Bd.named Bd.method).1
  have X0 : Stand p l e ({ frames := 2, cells := 0, slots := 0, locals := 28 } : Room) s m #[(.ref a1), (.long q2), (.ref a3)] below meth c s₁ [] 0 0 := Stand.of_body Bd
  have e0 : s₁.heap = h0 := by rw [← hh, Bd.state]; rfl
  have N0 := Fr.nil n0
  have k0 : ∀ t, Steps p.tables e below (s₁.setTop (mkF m 0 #[.val (.ref a1), .val (.long q2), .second, .val (.ref a3)] [])) t → Steps p.tables e below (s₁.setTop (entryFrame m #[(.ref a1), (.long q2), (.ref a3)] 4)) t := fun t k => castTop (ef_put1 m a1 q2 a3) k
  obtain ⟨E1, F1a, F1b, F1c, V1⟩ := SB
  obtain ⟨E2, F2a, F2b, F2c⟩ := SL
  obtain ⟨T3, X3, e3, st3⟩ := getF X0 hx hZ hown (host := "") (Or.inl (hw _ (List.mem_of_getElem? (i := 35) rfl))) Via.refl e0 F1a (g := (mkF m 1 #[.val (.ref a1), .val (.long q2), .second, .val (.ref a3)] [(.ref a1)])) rfl rfl (hb hby d7_1)
  obtain ⟨cq4, kq4, q4a, q4b, q4c⟩ := isOf hZ e3 E2
  obtain ⟨_, _, ⟨T4, L4, kk4, n4⟩, -, X4, ⟨Lc4, hQ4, l4, y4, z4⟩, st4⟩ := X3.interfaceBack hx (xi := (⟨"java/util/List", "size", "()I"⟩ : MethodName)) (y := (⟨"java/util/ArrayList", "size", "()I"⟩ : MethodName)) hown (mvT hZ (hw _ (List.mem_of_getElem? (i := 50) rfl))) (mvT hZ (hw _ (List.mem_of_getElem? (i := 51) rfl))) (mvT hZ (hw _ (List.mem_of_getElem? (i := 52) rfl))) (mvT hZ (hw _ (List.mem_of_getElem? (i := 53) rfl))) (mvT hZ (hw _ (List.mem_of_getElem? (i := 54) rfl))) (mvT hZ (hw _ (List.mem_of_getElem? (i := 55) rfl))) (mvT hZ (hw _ (List.mem_of_getElem? (i := 56) rfl))) (mvT hZ (hw _ (List.mem_of_getElem? (i := 57) rfl))) (by decide) (backOf (W := 0) (rm_size l Z a0 hw [] al (1 : Int32) h0 n0 Z0 F2b) hZ (hw _ (List.mem_of_getElem? (i := 58) rfl)) (hw _ (List.mem_of_getElem? (i := 13) rfl)) (by decide) (by decide)) q4a q4b q4c (g := (mkF m 4 #[.val (.ref a1), .val (.long q2), .second, .val (.ref a3)] [(.ref al)])) rfl (by rw [hml]; rfl) (Steps.refl _) (argsL := []) (rest := []) (lenOf pd___I rfl) rfl (by show 2 * 0 + _ ≤ _; exact Nat.le_of_eq rfl) (hb hby d7_4) (fun _ _ => ⟨rfl, e3, (by decide : 0 + 0 ≤ _), (by decide : 0 + 0 ≤ _)⟩)
  dsimp only [Pt.U, Pt.locs, Pt.cells, Pt.slots] at X4 l4 y4 z4 st4 hQ4
  subst l4 y4 z4
  obtain ⟨rfl, N4q, qs1⟩ := hQ4
  have N4 := Fr.app N0 N4q
  obtain ⟨T5, X5, e5, st5⟩ := getF X4 hx hZ hown (host := "") (Or.inl (hw _ (List.mem_of_getElem? (i := 38) rfl))) Via.refl qs1 F1b (g := (mkF m 10 #[.val (.ref a1), .val (.long q2), .second, .val (.ref a3)] [(.ref a1), (.int (1 : Int32))])) rfl rfl (hb hby d7_10)
  obtain ⟨T6, X6, e6, st6⟩ := getF X5 hx hZ hown (host := "") (Or.inl (hw _ (List.mem_of_getElem? (i := 38) rfl))) Via.refl e5 F1b (g := (mkF m 36 #[.val (.ref a1), .val (.long q2), .second, .val (.ref a3)] [(.ref a1)])) rfl rfl (hb hby d7_36)
  obtain ⟨T7, X7, e7, st7⟩ := getF X6 hx hZ hown (host := "") (Or.inl (hw _ (List.mem_of_getElem? (i := 35) rfl))) Via.refl e6 F1a (g := (mkF m 40 #[.val (.ref a1), .val (.long q2), .second, .val (.ref a3)] [(.ref a1), (.ref ts)])) rfl rfl (hb hby d7_40)
  obtain ⟨cq8, kq8, q8a, q8b, q8c⟩ := isOf hZ e7 E2
  obtain ⟨_, _, ⟨T8, L8, kk8, n8⟩, -, X8, ⟨Lc8, hQ8, l8, y8, z8⟩, st8⟩ := X7.interfaceBack hx (xi := (⟨"java/util/List", "size", "()I"⟩ : MethodName)) (y := (⟨"java/util/ArrayList", "size", "()I"⟩ : MethodName)) hown (mvT hZ (hw _ (List.mem_of_getElem? (i := 50) rfl))) (mvT hZ (hw _ (List.mem_of_getElem? (i := 51) rfl))) (mvT hZ (hw _ (List.mem_of_getElem? (i := 52) rfl))) (mvT hZ (hw _ (List.mem_of_getElem? (i := 53) rfl))) (mvT hZ (hw _ (List.mem_of_getElem? (i := 54) rfl))) (mvT hZ (hw _ (List.mem_of_getElem? (i := 55) rfl))) (mvT hZ (hw _ (List.mem_of_getElem? (i := 56) rfl))) (mvT hZ (hw _ (List.mem_of_getElem? (i := 57) rfl))) (by decide) (backOf (W := 1) (rm_size l Z a0 hw [] al (1 : Int32) h0 n0 Z0 F2b) hZ (hw _ (List.mem_of_getElem? (i := 58) rfl)) (hw _ (List.mem_of_getElem? (i := 13) rfl)) (by decide) (by decide)) q8a q8b q8c (g := (mkF m 43 #[.val (.ref a1), .val (.long q2), .second, .val (.ref a3)] [(.ref al), (.ref ts)])) rfl (by rw [hml]; rfl) (Steps.refl _) (argsL := []) (rest := [(.ref ts)]) (lenOf pd___I rfl) rfl (by show 2 * 0 + _ ≤ _; exact Nat.le_of_eq rfl) (hb hby d7_43) (fun _ _ => ⟨rfl, e7, (by decide : 0 + 0 ≤ _), (by decide : 0 + 0 ≤ _)⟩)
  dsimp only [Pt.U, Pt.locs, Pt.cells, Pt.slots] at X8 l8 y8 z8 st8 hQ8
  subst l8 y8 z8
  obtain ⟨rfl, N8q, qs2⟩ := hQ8
  have N8 := Fr.app N4 N8q
  obtain ⟨T9, h9, X9, e9, W9, Vn9, st9⟩ := own_stJ X8 hx hZ qs2 V1 (j := (1 : Int32)) (by decide) (by rw [lT]; decide) (g := (mkF m 49 #[.val (.ref a1), .val (.long q2), .second, .val (.ref a3)] [(.long q2), (.int (1 : Int32)), (.ref ts)])) rfl rfl (hb hby d7_49)
  have N9 := Fr.snoc X9 N8 g_ts
  have V10 : Arv Z h9 ts kt .long (16 : Int32) ((TS.set (1 : Int32).toNatClampNeg q2).map Value.long) (.long 0) := Vn9
  have O11 : Old Z n0 h9 := O0.wr W9 g_ts
  have E12 : Exa Z h9 a3 "[B" := E_a3.wr W9
  have V13 : Arv Z h9 a3 kb .byte zb vs dv := V_a3.other W9 n6
  have E14 : Exa Z h9 a1 "com/example/lumenbus/lumenbus/log/Batch" := E1.wr W9
  have F15 : Fld Z h9 a1 "com/example/lumenbus/lumenbus/log/Batch" "payloads" "Ljava/util/List;" (.ref al) := F1a.other W9 (Or.inl n2)
  have F16 : Fld Z h9 a1 "com/example/lumenbus/lumenbus/log/Batch" "timestamps" "[J" (.ref ts) := F1b.other W9 (Or.inl n2)
  have F17 : Fld Z h9 a1 "com/example/lumenbus/lumenbus/log/Batch" "bytes" "J" (.long bt) := F1c.other W9 (Or.inl n2)
  have E18 : Exa Z h9 al "java/util/ArrayList" := E2.wr W9
  have F19 : Fld Z h9 al "java/util/ArrayList" "elementData" "[Ljava/lang/Object;" (.ref ed) := F2a.other W9 (Or.inl n3)
  have F20 : Fld Z h9 al "java/util/ArrayList" "size" "I" (.int (1 : Int32)) := F2b.other W9 (Or.inl n3)
  have F21 : Fld Z h9 al "java/util/AbstractList" "modCount" "I" (.int mc) := F2c.other W9 (Or.inl n3)
  have V22 : own_ED Z h9 ed := D1.other W9 (Ne.symm n9)
  have K23 : Keep h0 h9 [a1, al, ts, ed] := (Keep.refl h0 [a1, al, ts, ed]).wr W9 (Or.inl (List.mem_of_getElem? (i := 2) rfl))
  have ixt : (1 : Int32).toNatClampNeg = 1 := by decide
  rw [ixt] at V10
  have V24 : Arv Z h9 ts kt .long (16 : Int32) ((TS.set 1 q2).map Value.long) (.long 0) := V10
  obtain ⟨T25, X25, e25, st25⟩ := getF X9 hx hZ hown (host := "") (Or.inl (hw _ (List.mem_of_getElem? (i := 35) rfl))) Via.refl e9 F15 (g := (mkF m 51 #[.val (.ref a1), .val (.long q2), .second, .val (.ref a3)] [(.ref a1)])) rfl rfl (hb hby d7_51)
  obtain ⟨cq26, kq26, q26a, q26b, q26c⟩ := isOf hZ e25 E18
  obtain ⟨_, _, ⟨T26, L26, kk26, n26⟩, -, X26, ⟨Lc26, hQ26, l26, y26, z26⟩, st26⟩ := X25.interfaceBack hx (xi := (⟨"java/util/List", "add", "(Ljava/lang/Object;)Z"⟩ : MethodName)) (y := (⟨"java/util/ArrayList", "add", "(Ljava/lang/Object;)Z"⟩ : MethodName)) hown (mvT hZ (hw _ (List.mem_of_getElem? (i := 61) rfl))) (mvT hZ (hw _ (List.mem_of_getElem? (i := 62) rfl))) (mvT hZ (hw _ (List.mem_of_getElem? (i := 63) rfl))) (mvT hZ (hw _ (List.mem_of_getElem? (i := 64) rfl))) (mvT hZ (hw _ (List.mem_of_getElem? (i := 65) rfl))) (mvT hZ (hw _ (List.mem_of_getElem? (i := 66) rfl))) (mvT hZ (hw _ (List.mem_of_getElem? (i := 67) rfl))) (mvT hZ (hw _ (List.mem_of_getElem? (i := 57) rfl))) (by decide) (backOf (W := 0) (rm_add1n1 l Z a0 hw [] al a3 ed mc h9 n0 (Nat.le_trans Z0 K23.1) ⟨E18, F19, F20, F21⟩ V22 g_al g_ed n8 E12) hZ (hw _ (List.mem_of_getElem? (i := 68) rfl)) (hw _ (List.mem_of_getElem? (i := 13) rfl)) (by decide) (by decide)) q26a q26b q26c (g := (mkF m 55 #[.val (.ref a1), .val (.long q2), .second, .val (.ref a3)] [(.ref a3), (.ref al)])) rfl (by rw [hml]; rfl) (Steps.refl _) (argsL := [(.ref a3)]) (rest := []) (lenOf pd__Ljava_lang_Object__Z rfl) rfl (by show 2 * 0 + _ ≤ _; exact Nat.le_of_eq rfl) (hb hby d7_55) (fun _ _ => ⟨rfl, e25, (by decide : 0 + 0 ≤ _), (by decide : 0 + 0 ≤ _)⟩)
  dsimp only [Pt.U, Pt.locs, Pt.cells, Pt.slots] at X26 l26 y26 z26 st26 hQ26
  subst l26 y26 z26
  obtain ⟨rfl, N26q, Kp, Sl, De⟩ := hQ26
  have N26 := Fr.app N9 N26q
  have K27 : Keep h0 T26.heap [a1, al, ts, ed] := K23.trans Kp (allS (Or.inl (List.mem_of_getElem? (i := 1) rfl)) (allS (Or.inl (List.mem_of_getElem? (i := 3) rfl)) all0))
  have O28 : Old Z n0 T26.heap := O11.keep Kp (allS g_al (allS g_ed all0))
  have E29 : Exa Z T26.heap a3 "[B" := E12.keep Kp
  have V30 : Arv Z T26.heap a3 kb .byte zb vs dv := V13.keep Kp (ninS n5 (ninS n10 nin0))
  have E31 : Exa Z T26.heap a1 "com/example/lumenbus/lumenbus/log/Batch" := E14.keep Kp
  have F32 : Fld Z T26.heap a1 "com/example/lumenbus/lumenbus/log/Batch" "payloads" "Ljava/util/List;" (.ref al) := F15.keep Kp (ninS n1 (ninS n7 nin0))
  have F33 : Fld Z T26.heap a1 "com/example/lumenbus/lumenbus/log/Batch" "timestamps" "[J" (.ref ts) := F16.keep Kp (ninS n1 (ninS n7 nin0))
  have F34 : Fld Z T26.heap a1 "com/example/lumenbus/lumenbus/log/Batch" "bytes" "J" (.long bt) := F17.keep Kp (ninS n1 (ninS n7 nin0))
  have V35 : Arv Z T26.heap ts kt .long (16 : Int32) ((TS.set 1 q2).map Value.long) (.long 0) := V24.keep Kp (ninS (Ne.symm n3) (ninS n9 nin0))
  have E36 : Exa Z T26.heap al "java/util/ArrayList" := E18.keep Kp
  obtain ⟨E37, F37a, F37b, F37c⟩ := Sl
  obtain ⟨T38, X38, e38, st38⟩ := getF X26 hx hZ hown (host := "") (Or.inl (hw _ (List.mem_of_getElem? (i := 93) rfl))) Via.refl rfl F34 (g := (mkF m 63 #[.val (.ref a1), .val (.long q2), .second, .val (.ref a3)] [(.ref a1), (.ref a1)])) rfl rfl (hb hby d7_63)
  obtain ⟨_, _, ⟨T39, L39, kk39, n39⟩, -, X39, ⟨Lc39, hQ39, l39, y39, z39⟩, st39⟩ := Jvm.LawKit.callS X38 hx (y := (⟨"com/example/lumenbus/lumenbus/log/Segment", "bytesOf", "([B)J"⟩ : MethodName)) hown (mvT hZ (hw _ (List.mem_of_getElem? (i := 95) rfl))) (mvT hZ (hw _ (List.mem_of_getElem? (i := 96) rfl))) (mvT hZ (hw _ (List.mem_of_getElem? (i := 97) rfl))) (mvT hZ (hw _ (List.mem_of_getElem? (i := 98) rfl))) (by decide) (backOf (W := 3) (rm_bytesOf l Z a0 hw [] a3 kb zb vs dv T26.heap n0 (Nat.le_trans Z0 K27.1) V30) hZ (hw _ (List.mem_of_getElem? (i := 98) rfl)) (hw _ (List.mem_of_getElem? (i := 97) rfl)) (by decide) (by decide)) (g := (mkF m 67 #[.val (.ref a1), .val (.long q2), .second, .val (.ref a3)] [(.ref a3), (.long bt), (.ref a1)])) rfl (by rw [hml]; rfl) (argsL := [(.ref a3)]) (rest := [(.long bt), (.ref a1)]) (lenOf pd___B_J rfl) rfl (by show 2 * 0 + _ ≤ _; exact Nat.le_of_eq rfl) (hb hby d7_67) (fun _ _ => ⟨rfl, e38, (by decide : 0 + 0 ≤ _), (by decide : 0 + 0 ≤ _)⟩)
  dsimp only [Pt.U, Pt.locs, Pt.cells, Pt.slots] at X39 l39 y39 z39 st39 hQ39
  subst l39 y39 z39
  obtain ⟨rfl, N39q, qb⟩ := hQ39
  have N39 := Fr.app N26 N39q
  obtain ⟨T40, h40, X40, e40, W40, st40⟩ := putF X39 hx hZ hown (host := "") (Or.inl (hw _ (List.mem_of_getElem? (i := 93) rfl))) Via.refl qb F34 E31 (Or.inl (hw _ (List.mem_of_getElem? (i := 94) rfl))) (hw _ (List.mem_of_getElem? (i := 3) rfl)) (ty := .long) (by decide) rfl rfl (g := (mkF m 71 #[.val (.ref a1), .val (.long q2), .second, .val (.ref a3)] [(.long (bt + ((24 : Int64) + (zb.toInt64)))), (.ref a1)])) rfl rfl (hb hby d7_71)
  have N40 := Fr.snoc X40 N39 g_a1
  have F41 : Fld Z h40 a1 "com/example/lumenbus/lumenbus/log/Batch" "bytes" "J" (.long (bt + ((24 : Int64) + (zb.toInt64)))) := F34.same W40
  have O42 : Old Z n0 h40 := O28.wr W40 g_a1
  have E43 : Exa Z h40 a3 "[B" := E29.wr W40
  have V44 : Arv Z h40 a3 kb .byte zb vs dv := V30.other W40 n4
  have E45 : Exa Z h40 a1 "com/example/lumenbus/lumenbus/log/Batch" := E31.wr W40
  have F46 : Fld Z h40 a1 "com/example/lumenbus/lumenbus/log/Batch" "payloads" "Ljava/util/List;" (.ref al) := F32.other W40 (Or.inr (slot_ne (Or.inr (hw _ (List.mem_of_getElem? (i := 36) rfl))) (Or.inl (hw _ (List.mem_of_getElem? (i := 94) rfl))) (by decide) (t := (.object "java/util/List")) (t' := .long) (by decide) (by decide)))
  have F47 : Fld Z h40 a1 "com/example/lumenbus/lumenbus/log/Batch" "timestamps" "[J" (.ref ts) := F33.other W40 (Or.inr (slot_ne (Or.inl (hw _ (List.mem_of_getElem? (i := 39) rfl))) (Or.inl (hw _ (List.mem_of_getElem? (i := 94) rfl))) (by decide) (t := (.array .long)) (t' := .long) (by decide) (by decide)))
  have V48 : Arv Z h40 ts kt .long (16 : Int32) ((TS.set 1 q2).map Value.long) (.long 0) := V35.other W40 (Ne.symm n2)
  have E49 : Exa Z h40 al "java/util/ArrayList" := E37.wr W40
  have V50 : own_ED Z h40 ed := De.other W40 (Ne.symm n7)
  have F51 : Fld Z h40 al "java/util/ArrayList" "elementData" "[Ljava/lang/Object;" (.ref ed) := F37a.other W40 (Or.inl (Ne.symm n1))
  have F52 : Fld Z h40 al "java/util/ArrayList" "size" "I" (.int (2 : Int32)) := F37b.other W40 (Or.inl (Ne.symm n1))
  have F53 : Fld Z h40 al "java/util/AbstractList" "modCount" "I" (.int (mc + 1)) := F37c.other W40 (Or.inl (Ne.symm n1))
  have K54 : Keep h0 h40 [a1, al, ts, ed] := K27.wr W40 (Or.inl (List.mem_of_getElem? (i := 0) rfl))
  have k56 : ∀ t, Steps p.tables e below (T40.setTop (mkF m 74 #[.val (.ref a1), .val (.long q2), .second, .val (.ref a3)] [])) t → Steps p.tables e below (s₁.setTop (entryFrame m #[(.ref a1), (.long q2), (.ref a3)] 4)) t := fun t k => k0 t (by
    show Steps p.tables e below (s₁.setTop (mkF m 0 #[.val (.ref a1), .val (.long q2), .second, .val (.ref a3)] [])) _
    refine XS.aloadN X0.here hx rfl (hb hby d7_0) rfl rfl ?_
    show Steps p.tables e below (s₁.setTop (mkF m 1 #[.val (.ref a1), .val (.long q2), .second, .val (.ref a3)] [(.ref a1)])) _
    refine st3 _ ?_
    show Steps p.tables e below (T3.setTop (mkF m 4 #[.val (.ref a1), .val (.long q2), .second, .val (.ref a3)] [(.ref al)])) _
    refine st4.trans ?_
    show Steps p.tables e below (T4.setTop (mkF m 9 #[.val (.ref a1), .val (.long q2), .second, .val (.ref a3)] [(.int (1 : Int32))])) _
    refine XS.aloadN X4.here hx rfl (hb hby d7_9) rfl rfl ?_
    show Steps p.tables e below (T4.setTop (mkF m 10 #[.val (.ref a1), .val (.long q2), .second, .val (.ref a3)] [(.ref a1), (.int (1 : Int32))])) _
    refine st5 _ ?_
    show Steps p.tables e below (T5.setTop (mkF m 13 #[.val (.ref a1), .val (.long q2), .second, .val (.ref a3)] [(.ref ts), (.int (1 : Int32))])) _
    refine own_len X5 hx hZ e5 V1 (g := (mkF m 13 #[.val (.ref a1), .val (.long q2), .second, .val (.ref a3)] [(.ref ts), (.int (1 : Int32))])) rfl rfl (hb hby d7_13) _ ?_
    show Steps p.tables e below (T5.setTop (mkF m 14 #[.val (.ref a1), .val (.long q2), .second, .val (.ref a3)] [(.int (16 : Int32)), (.int (1 : Int32))])) _
    refine XS.icmpYes X5.here hx rfl (pc0 := 14) (pc' := 35) rfl (hb hby d7_14) rfl (feq (by decide)).2 (by decide) (by decide) ?_
    show Steps p.tables e below (T5.setTop (mkF m 35 #[.val (.ref a1), .val (.long q2), .second, .val (.ref a3)] [])) _
    refine XS.aloadN X5.here hx rfl (hb hby d7_35) rfl rfl ?_
    show Steps p.tables e below (T5.setTop (mkF m 36 #[.val (.ref a1), .val (.long q2), .second, .val (.ref a3)] [(.ref a1)])) _
    refine st6 _ ?_
    show Steps p.tables e below (T6.setTop (mkF m 39 #[.val (.ref a1), .val (.long q2), .second, .val (.ref a3)] [(.ref ts)])) _
    refine XS.aloadN X6.here hx rfl (hb hby d7_39) rfl rfl ?_
    show Steps p.tables e below (T6.setTop (mkF m 40 #[.val (.ref a1), .val (.long q2), .second, .val (.ref a3)] [(.ref a1), (.ref ts)])) _
    refine st7 _ ?_
    show Steps p.tables e below (T7.setTop (mkF m 43 #[.val (.ref a1), .val (.long q2), .second, .val (.ref a3)] [(.ref al), (.ref ts)])) _
    refine st8.trans ?_
    show Steps p.tables e below (T8.setTop (mkF m 48 #[.val (.ref a1), .val (.long q2), .second, .val (.ref a3)] [(.int (1 : Int32)), (.ref ts)])) _
    refine XS.lloadN X8.here hx rfl (hb hby d7_48) rfl ?_
    show Steps p.tables e below (T8.setTop (mkF m 49 #[.val (.ref a1), .val (.long q2), .second, .val (.ref a3)] [(.long q2), (.int (1 : Int32)), (.ref ts)])) _
    refine st9 _ ?_
    show Steps p.tables e below (T9.setTop (mkF m 50 #[.val (.ref a1), .val (.long q2), .second, .val (.ref a3)] [])) _
    refine XS.aloadN X9.here hx rfl (hb hby d7_50) rfl rfl ?_
    show Steps p.tables e below (T9.setTop (mkF m 51 #[.val (.ref a1), .val (.long q2), .second, .val (.ref a3)] [(.ref a1)])) _
    refine st25 _ ?_
    show Steps p.tables e below (T25.setTop (mkF m 54 #[.val (.ref a1), .val (.long q2), .second, .val (.ref a3)] [(.ref al)])) _
    refine XS.aloadN X25.here hx rfl (hb hby d7_54) rfl rfl ?_
    show Steps p.tables e below (T25.setTop (mkF m 55 #[.val (.ref a1), .val (.long q2), .second, .val (.ref a3)] [(.ref a3), (.ref al)])) _
    refine st26.trans ?_
    show Steps p.tables e below (T26.setTop (mkF m 60 #[.val (.ref a1), .val (.long q2), .second, .val (.ref a3)] [(.int (1 : Int32))])) _
    refine XS.pop X26.here hx rfl (hb hby d7_60) rfl rfl ?_
    show Steps p.tables e below (T26.setTop (mkF m 61 #[.val (.ref a1), .val (.long q2), .second, .val (.ref a3)] [])) _
    refine XS.aloadN X26.here hx rfl (hb hby d7_61) rfl rfl ?_
    show Steps p.tables e below (T26.setTop (mkF m 62 #[.val (.ref a1), .val (.long q2), .second, .val (.ref a3)] [(.ref a1)])) _
    refine XS.dup X26.here hx rfl (hb hby d7_62) rfl rfl ?_
    show Steps p.tables e below (T26.setTop (mkF m 63 #[.val (.ref a1), .val (.long q2), .second, .val (.ref a3)] [(.ref a1), (.ref a1)])) _
    refine st38 _ ?_
    show Steps p.tables e below (T38.setTop (mkF m 66 #[.val (.ref a1), .val (.long q2), .second, .val (.ref a3)] [(.long bt), (.ref a1)])) _
    refine XS.aloadN X38.here hx rfl (hb hby d7_66) rfl rfl ?_
    show Steps p.tables e below (T38.setTop (mkF m 67 #[.val (.ref a1), .val (.long q2), .second, .val (.ref a3)] [(.ref a3), (.long bt), (.ref a1)])) _
    refine st39 _ ?_
    show Steps p.tables e below (T39.setTop (mkF m 70 #[.val (.ref a1), .val (.long q2), .second, .val (.ref a3)] [(.long ((24 : Int64) + (zb.toInt64))), (.long bt), (.ref a1)])) _
    refine XS.ladd X39.here hx rfl (hb hby d7_70) rfl ?_
    show Steps p.tables e below (T39.setTop (mkF m 71 #[.val (.ref a1), .val (.long q2), .second, .val (.ref a3)] [(.long (bt + ((24 : Int64) + (zb.toInt64)))), (.ref a1)])) _
    refine st40 _ ?_
    exact k)
  obtain ⟨fs, hr, hrun, hended, hW, hsame⟩ := X40.leave (v := none) (fun _ => rfl) (BodyLoose.notSynchronized Bd)
  refine ⟨_, _, k56 _ ?_, hrun, hended, _, _, rfl, ?_, ⟨_, rfl⟩, hW, hsame.mono (by decide) (by decide)⟩
  · show Steps p.tables e below (T40.setTop (mkF m 74 #[.val (.ref a1), .val (.long q2), .second, .val (.ref a3)] [])) _
    exact X40.returnOut hx Bd.returns (hb hby d7_74) hr
  ·
    show Qput1 _ a1 q2 a3 al ts kt TS bt mc ed kb zb vs dv h0 n0 _ T40.heap _
    rw [e40]
    exact ⟨rfl, N40, K54, _, ⟨E45, F46, F47, F41, V48⟩, ⟨E49, F51, F52, F53⟩, V50⟩
theorem ef_put2 (m : MethodId) (x0 : Addr) (x1 : Int64) (x2 : Addr) : entryFrame m #[(.ref x0), (.long x1), (.ref x2)] 4 = mkF m 0 #[.val (.ref x0), .val (.long x1), .second, .val (.ref x2)] [] := by first | (simp [entryFrame, mkF, argsToLocals, Value.category]; done) | rfl
def Qput2 (Z : State) (a1 : Addr) (q2 : Int64) (a3 : Addr) (al : Addr) (ts : Addr) (kt : ClassId) (TS : List Int64) (bt : Int64) (mc : Int32) (ed : Addr) (kb : ClassId) (zb : Int32) (vs : List Value) (dv : Value) (h0 : Heap) (n0 : Nat) (v : Option Value) (h : Heap) (L : List Loc) : Prop := v = none ∧ Fr n0 L ∧ Keep h0 h [a1, al, ts, ed] ∧ ∃ (bt' : Int64), own_B Z h a1 al ts kt (TS.set 2 q2) bt' ∧ own_AL Z h al (.ref ed) 3 (mc + 1) ∧ own_ED Z h ed
set_option maxRecDepth 65536 in
set_option maxHeartbeats 40000000 in
theorem rm_put2 (l : Launch) (Z : State) (a0 : Array Value) (hw : ∀ d ∈ tables_1, d.before a0 Z = true) (ws : List Jvm.Cond) (a1 : Addr) (q2 : Int64) (a3 : Addr) (al : Addr) (ts : Addr) (kt : ClassId) (TS : List Int64) (bt : Int64) (mc : Int32) (ed : Addr) (kb : ClassId) (zb : Int32) (vs : List Value) (dv : Value) (h0 : Heap) (n0 : Nat) (Z0 : n0 ≤ h0.size) (SB : own_B Z h0 a1 al ts kt TS bt) (SL : own_AL Z h0 al (.ref ed) 2 mc) (E_a3 : Exa Z h0 a3 "[B") (V_a3 : Arv Z h0 a3 kb .byte zb vs dv) (O0 : Old Z n0 h0) (lT : TS.length = 16) (g_a1 : n0 ≤ a1) (g_al : n0 ≤ al) (g_ts : n0 ≤ ts) (n1 : a1 ≠ al) (n2 : a1 ≠ ts) (n3 : al ≠ ts) (n4 : a3 ≠ a1) (n5 : a3 ≠ al) (n6 : a3 ≠ ts) (D1 : own_ED Z h0 ed) (g_ed : n0 ≤ ed) (n7 : a1 ≠ ed) (n8 : al ≠ ed) (n9 : ts ≠ ed) (n10 : a3 ≠ ed) :
    MetFree l (⟨"com/example/lumenbus/lumenbus/log/Batch", "put", "(J[B)V"⟩ : MethodName) (head1 (Jvm.Cond.code (⟨"com/example/lumenbus/lumenbus/log/Batch", "put", "(J[B)V"⟩ : MethodName) prog_31_method_5_code 4 none :: ws) ({ frames := 2, cells := 0, slots := 0, locals := 28 } : Room)) (fun a U => a = #[(.ref a1), (.long q2), (.ref a3)] ∧ Z.Warmed39 U.vm ∧ U.heap = h0) (fun _ _ _ _ _ => True) (fun _ U o U' => ∃ v L, o = .returned v ∧ Qput2 Z a1 q2 a3 al ts kt TS bt mc ed kb zb vs dv h0 n0 v U'.heap L ∧ FrameEnd U o U' L ({ frames := 2, cells := 0, slots := 0, locals := 28 } : Room).cells ({ frames := 2, cells := 0, slots := 0, locals := 28 } : Room).slots) := by
  refine MetFree.of_bodySF (plainFor_of_name pn_7) hisR ?_
  intro p e s m args below meth c s₁ Bd hml0 hP hK
  obtain ⟨rfl, hZ, hh⟩ := hP
  have hx := Bd.exec
  have hby := Bd.bytes
  have hml : c.maxLocals = 4 := hml0
  have hown : s.vm.findClass "com/example/lumenbus/lumenbus/log/Batch" = some m.cls := findClass_of_methodNamed Bd.named
  have hnm := (name_of_methodNamed Bd.named Bd.method).1
  have X0 : Stand p l e ({ frames := 2, cells := 0, slots := 0, locals := 28 } : Room) s m #[(.ref a1), (.long q2), (.ref a3)] below meth c s₁ [] 0 0 := Stand.of_body Bd
  have e0 : s₁.heap = h0 := by rw [← hh, Bd.state]; rfl
  have N0 := Fr.nil n0
  have k0 : ∀ t, Steps p.tables e below (s₁.setTop (mkF m 0 #[.val (.ref a1), .val (.long q2), .second, .val (.ref a3)] [])) t → Steps p.tables e below (s₁.setTop (entryFrame m #[(.ref a1), (.long q2), (.ref a3)] 4)) t := fun t k => castTop (ef_put2 m a1 q2 a3) k
  obtain ⟨E1, F1a, F1b, F1c, V1⟩ := SB
  obtain ⟨E2, F2a, F2b, F2c⟩ := SL
  obtain ⟨T3, X3, e3, st3⟩ := getF X0 hx hZ hown (host := "") (Or.inl (hw _ (List.mem_of_getElem? (i := 35) rfl))) Via.refl e0 F1a (g := (mkF m 1 #[.val (.ref a1), .val (.long q2), .second, .val (.ref a3)] [(.ref a1)])) rfl rfl (hb hby d7_1)
  obtain ⟨cq4, kq4, q4a, q4b, q4c⟩ := isOf hZ e3 E2
  obtain ⟨_, _, ⟨T4, L4, kk4, n4⟩, -, X4, ⟨Lc4, hQ4, l4, y4, z4⟩, st4⟩ := X3.interfaceBack hx (xi := (⟨"java/util/List", "size", "()I"⟩ : MethodName)) (y := (⟨"java/util/ArrayList", "size", "()I"⟩ : MethodName)) hown (mvT hZ (hw _ (List.mem_of_getElem? (i := 50) rfl))) (mvT hZ (hw _ (List.mem_of_getElem? (i := 51) rfl))) (mvT hZ (hw _ (List.mem_of_getElem? (i := 52) rfl))) (mvT hZ (hw _ (List.mem_of_getElem? (i := 53) rfl))) (mvT hZ (hw _ (List.mem_of_getElem? (i := 54) rfl))) (mvT hZ (hw _ (List.mem_of_getElem? (i := 55) rfl))) (mvT hZ (hw _ (List.mem_of_getElem? (i := 56) rfl))) (mvT hZ (hw _ (List.mem_of_getElem? (i := 57) rfl))) (by decide) (backOf (W := 0) (rm_size l Z a0 hw [] al (2 : Int32) h0 n0 Z0 F2b) hZ (hw _ (List.mem_of_getElem? (i := 58) rfl)) (hw _ (List.mem_of_getElem? (i := 13) rfl)) (by decide) (by decide)) q4a q4b q4c (g := (mkF m 4 #[.val (.ref a1), .val (.long q2), .second, .val (.ref a3)] [(.ref al)])) rfl (by rw [hml]; rfl) (Steps.refl _) (argsL := []) (rest := []) (lenOf pd___I rfl) rfl (by show 2 * 0 + _ ≤ _; exact Nat.le_of_eq rfl) (hb hby d7_4) (fun _ _ => ⟨rfl, e3, (by decide : 0 + 0 ≤ _), (by decide : 0 + 0 ≤ _)⟩)
  dsimp only [Pt.U, Pt.locs, Pt.cells, Pt.slots] at X4 l4 y4 z4 st4 hQ4
  subst l4 y4 z4
  obtain ⟨rfl, N4q, qs1⟩ := hQ4
  have N4 := Fr.app N0 N4q
  obtain ⟨T5, X5, e5, st5⟩ := getF X4 hx hZ hown (host := "") (Or.inl (hw _ (List.mem_of_getElem? (i := 38) rfl))) Via.refl qs1 F1b (g := (mkF m 10 #[.val (.ref a1), .val (.long q2), .second, .val (.ref a3)] [(.ref a1), (.int (2 : Int32))])) rfl rfl (hb hby d7_10)
  obtain ⟨T6, X6, e6, st6⟩ := getF X5 hx hZ hown (host := "") (Or.inl (hw _ (List.mem_of_getElem? (i := 38) rfl))) Via.refl e5 F1b (g := (mkF m 36 #[.val (.ref a1), .val (.long q2), .second, .val (.ref a3)] [(.ref a1)])) rfl rfl (hb hby d7_36)
  obtain ⟨T7, X7, e7, st7⟩ := getF X6 hx hZ hown (host := "") (Or.inl (hw _ (List.mem_of_getElem? (i := 35) rfl))) Via.refl e6 F1a (g := (mkF m 40 #[.val (.ref a1), .val (.long q2), .second, .val (.ref a3)] [(.ref a1), (.ref ts)])) rfl rfl (hb hby d7_40)
  obtain ⟨cq8, kq8, q8a, q8b, q8c⟩ := isOf hZ e7 E2
  obtain ⟨_, _, ⟨T8, L8, kk8, n8⟩, -, X8, ⟨Lc8, hQ8, l8, y8, z8⟩, st8⟩ := X7.interfaceBack hx (xi := (⟨"java/util/List", "size", "()I"⟩ : MethodName)) (y := (⟨"java/util/ArrayList", "size", "()I"⟩ : MethodName)) hown (mvT hZ (hw _ (List.mem_of_getElem? (i := 50) rfl))) (mvT hZ (hw _ (List.mem_of_getElem? (i := 51) rfl))) (mvT hZ (hw _ (List.mem_of_getElem? (i := 52) rfl))) (mvT hZ (hw _ (List.mem_of_getElem? (i := 53) rfl))) (mvT hZ (hw _ (List.mem_of_getElem? (i := 54) rfl))) (mvT hZ (hw _ (List.mem_of_getElem? (i := 55) rfl))) (mvT hZ (hw _ (List.mem_of_getElem? (i := 56) rfl))) (mvT hZ (hw _ (List.mem_of_getElem? (i := 57) rfl))) (by decide) (backOf (W := 1) (rm_size l Z a0 hw [] al (2 : Int32) h0 n0 Z0 F2b) hZ (hw _ (List.mem_of_getElem? (i := 58) rfl)) (hw _ (List.mem_of_getElem? (i := 13) rfl)) (by decide) (by decide)) q8a q8b q8c (g := (mkF m 43 #[.val (.ref a1), .val (.long q2), .second, .val (.ref a3)] [(.ref al), (.ref ts)])) rfl (by rw [hml]; rfl) (Steps.refl _) (argsL := []) (rest := [(.ref ts)]) (lenOf pd___I rfl) rfl (by show 2 * 0 + _ ≤ _; exact Nat.le_of_eq rfl) (hb hby d7_43) (fun _ _ => ⟨rfl, e7, (by decide : 0 + 0 ≤ _), (by decide : 0 + 0 ≤ _)⟩)
  dsimp only [Pt.U, Pt.locs, Pt.cells, Pt.slots] at X8 l8 y8 z8 st8 hQ8
  subst l8 y8 z8
  obtain ⟨rfl, N8q, qs2⟩ := hQ8
  have N8 := Fr.app N4 N8q
  obtain ⟨T9, h9, X9, e9, W9, Vn9, st9⟩ := own_stJ X8 hx hZ qs2 V1 (j := (2 : Int32)) (by decide) (by rw [lT]; decide) (g := (mkF m 49 #[.val (.ref a1), .val (.long q2), .second, .val (.ref a3)] [(.long q2), (.int (2 : Int32)), (.ref ts)])) rfl rfl (hb hby d7_49)
  have N9 := Fr.snoc X9 N8 g_ts
  have V10 : Arv Z h9 ts kt .long (16 : Int32) ((TS.set (2 : Int32).toNatClampNeg q2).map Value.long) (.long 0) := Vn9
  have O11 : Old Z n0 h9 := O0.wr W9 g_ts
  have E12 : Exa Z h9 a3 "[B" := E_a3.wr W9
  have V13 : Arv Z h9 a3 kb .byte zb vs dv := V_a3.other W9 n6
  have E14 : Exa Z h9 a1 "com/example/lumenbus/lumenbus/log/Batch" := E1.wr W9
  have F15 : Fld Z h9 a1 "com/example/lumenbus/lumenbus/log/Batch" "payloads" "Ljava/util/List;" (.ref al) := F1a.other W9 (Or.inl n2)
  have F16 : Fld Z h9 a1 "com/example/lumenbus/lumenbus/log/Batch" "timestamps" "[J" (.ref ts) := F1b.other W9 (Or.inl n2)
  have F17 : Fld Z h9 a1 "com/example/lumenbus/lumenbus/log/Batch" "bytes" "J" (.long bt) := F1c.other W9 (Or.inl n2)
  have E18 : Exa Z h9 al "java/util/ArrayList" := E2.wr W9
  have F19 : Fld Z h9 al "java/util/ArrayList" "elementData" "[Ljava/lang/Object;" (.ref ed) := F2a.other W9 (Or.inl n3)
  have F20 : Fld Z h9 al "java/util/ArrayList" "size" "I" (.int (2 : Int32)) := F2b.other W9 (Or.inl n3)
  have F21 : Fld Z h9 al "java/util/AbstractList" "modCount" "I" (.int mc) := F2c.other W9 (Or.inl n3)
  have V22 : own_ED Z h9 ed := D1.other W9 (Ne.symm n9)
  have K23 : Keep h0 h9 [a1, al, ts, ed] := (Keep.refl h0 [a1, al, ts, ed]).wr W9 (Or.inl (List.mem_of_getElem? (i := 2) rfl))
  have ixt : (2 : Int32).toNatClampNeg = 2 := by decide
  rw [ixt] at V10
  have V24 : Arv Z h9 ts kt .long (16 : Int32) ((TS.set 2 q2).map Value.long) (.long 0) := V10
  obtain ⟨T25, X25, e25, st25⟩ := getF X9 hx hZ hown (host := "") (Or.inl (hw _ (List.mem_of_getElem? (i := 35) rfl))) Via.refl e9 F15 (g := (mkF m 51 #[.val (.ref a1), .val (.long q2), .second, .val (.ref a3)] [(.ref a1)])) rfl rfl (hb hby d7_51)
  obtain ⟨cq26, kq26, q26a, q26b, q26c⟩ := isOf hZ e25 E18
  obtain ⟨_, _, ⟨T26, L26, kk26, n26⟩, -, X26, ⟨Lc26, hQ26, l26, y26, z26⟩, st26⟩ := X25.interfaceBack hx (xi := (⟨"java/util/List", "add", "(Ljava/lang/Object;)Z"⟩ : MethodName)) (y := (⟨"java/util/ArrayList", "add", "(Ljava/lang/Object;)Z"⟩ : MethodName)) hown (mvT hZ (hw _ (List.mem_of_getElem? (i := 61) rfl))) (mvT hZ (hw _ (List.mem_of_getElem? (i := 62) rfl))) (mvT hZ (hw _ (List.mem_of_getElem? (i := 63) rfl))) (mvT hZ (hw _ (List.mem_of_getElem? (i := 64) rfl))) (mvT hZ (hw _ (List.mem_of_getElem? (i := 65) rfl))) (mvT hZ (hw _ (List.mem_of_getElem? (i := 66) rfl))) (mvT hZ (hw _ (List.mem_of_getElem? (i := 67) rfl))) (mvT hZ (hw _ (List.mem_of_getElem? (i := 57) rfl))) (by decide) (backOf (W := 0) (rm_add1n2 l Z a0 hw [] al a3 ed mc h9 n0 (Nat.le_trans Z0 K23.1) ⟨E18, F19, F20, F21⟩ V22 g_al g_ed n8 E12) hZ (hw _ (List.mem_of_getElem? (i := 68) rfl)) (hw _ (List.mem_of_getElem? (i := 13) rfl)) (by decide) (by decide)) q26a q26b q26c (g := (mkF m 55 #[.val (.ref a1), .val (.long q2), .second, .val (.ref a3)] [(.ref a3), (.ref al)])) rfl (by rw [hml]; rfl) (Steps.refl _) (argsL := [(.ref a3)]) (rest := []) (lenOf pd__Ljava_lang_Object__Z rfl) rfl (by show 2 * 0 + _ ≤ _; exact Nat.le_of_eq rfl) (hb hby d7_55) (fun _ _ => ⟨rfl, e25, (by decide : 0 + 0 ≤ _), (by decide : 0 + 0 ≤ _)⟩)
  dsimp only [Pt.U, Pt.locs, Pt.cells, Pt.slots] at X26 l26 y26 z26 st26 hQ26
  subst l26 y26 z26
  obtain ⟨rfl, N26q, Kp, Sl, De⟩ := hQ26
  have N26 := Fr.app N9 N26q
  have K27 : Keep h0 T26.heap [a1, al, ts, ed] := K23.trans Kp (allS (Or.inl (List.mem_of_getElem? (i := 1) rfl)) (allS (Or.inl (List.mem_of_getElem? (i := 3) rfl)) all0))
  have O28 : Old Z n0 T26.heap := O11.keep Kp (allS g_al (allS g_ed all0))
  have E29 : Exa Z T26.heap a3 "[B" := E12.keep Kp
  have V30 : Arv Z T26.heap a3 kb .byte zb vs dv := V13.keep Kp (ninS n5 (ninS n10 nin0))
  have E31 : Exa Z T26.heap a1 "com/example/lumenbus/lumenbus/log/Batch" := E14.keep Kp
  have F32 : Fld Z T26.heap a1 "com/example/lumenbus/lumenbus/log/Batch" "payloads" "Ljava/util/List;" (.ref al) := F15.keep Kp (ninS n1 (ninS n7 nin0))
  have F33 : Fld Z T26.heap a1 "com/example/lumenbus/lumenbus/log/Batch" "timestamps" "[J" (.ref ts) := F16.keep Kp (ninS n1 (ninS n7 nin0))
  have F34 : Fld Z T26.heap a1 "com/example/lumenbus/lumenbus/log/Batch" "bytes" "J" (.long bt) := F17.keep Kp (ninS n1 (ninS n7 nin0))
  have V35 : Arv Z T26.heap ts kt .long (16 : Int32) ((TS.set 2 q2).map Value.long) (.long 0) := V24.keep Kp (ninS (Ne.symm n3) (ninS n9 nin0))
  have E36 : Exa Z T26.heap al "java/util/ArrayList" := E18.keep Kp
  obtain ⟨E37, F37a, F37b, F37c⟩ := Sl
  obtain ⟨T38, X38, e38, st38⟩ := getF X26 hx hZ hown (host := "") (Or.inl (hw _ (List.mem_of_getElem? (i := 93) rfl))) Via.refl rfl F34 (g := (mkF m 63 #[.val (.ref a1), .val (.long q2), .second, .val (.ref a3)] [(.ref a1), (.ref a1)])) rfl rfl (hb hby d7_63)
  obtain ⟨_, _, ⟨T39, L39, kk39, n39⟩, -, X39, ⟨Lc39, hQ39, l39, y39, z39⟩, st39⟩ := Jvm.LawKit.callS X38 hx (y := (⟨"com/example/lumenbus/lumenbus/log/Segment", "bytesOf", "([B)J"⟩ : MethodName)) hown (mvT hZ (hw _ (List.mem_of_getElem? (i := 95) rfl))) (mvT hZ (hw _ (List.mem_of_getElem? (i := 96) rfl))) (mvT hZ (hw _ (List.mem_of_getElem? (i := 97) rfl))) (mvT hZ (hw _ (List.mem_of_getElem? (i := 98) rfl))) (by decide) (backOf (W := 3) (rm_bytesOf l Z a0 hw [] a3 kb zb vs dv T26.heap n0 (Nat.le_trans Z0 K27.1) V30) hZ (hw _ (List.mem_of_getElem? (i := 98) rfl)) (hw _ (List.mem_of_getElem? (i := 97) rfl)) (by decide) (by decide)) (g := (mkF m 67 #[.val (.ref a1), .val (.long q2), .second, .val (.ref a3)] [(.ref a3), (.long bt), (.ref a1)])) rfl (by rw [hml]; rfl) (argsL := [(.ref a3)]) (rest := [(.long bt), (.ref a1)]) (lenOf pd___B_J rfl) rfl (by show 2 * 0 + _ ≤ _; exact Nat.le_of_eq rfl) (hb hby d7_67) (fun _ _ => ⟨rfl, e38, (by decide : 0 + 0 ≤ _), (by decide : 0 + 0 ≤ _)⟩)
  dsimp only [Pt.U, Pt.locs, Pt.cells, Pt.slots] at X39 l39 y39 z39 st39 hQ39
  subst l39 y39 z39
  obtain ⟨rfl, N39q, qb⟩ := hQ39
  have N39 := Fr.app N26 N39q
  obtain ⟨T40, h40, X40, e40, W40, st40⟩ := putF X39 hx hZ hown (host := "") (Or.inl (hw _ (List.mem_of_getElem? (i := 93) rfl))) Via.refl qb F34 E31 (Or.inl (hw _ (List.mem_of_getElem? (i := 94) rfl))) (hw _ (List.mem_of_getElem? (i := 3) rfl)) (ty := .long) (by decide) rfl rfl (g := (mkF m 71 #[.val (.ref a1), .val (.long q2), .second, .val (.ref a3)] [(.long (bt + ((24 : Int64) + (zb.toInt64)))), (.ref a1)])) rfl rfl (hb hby d7_71)
  have N40 := Fr.snoc X40 N39 g_a1
  have F41 : Fld Z h40 a1 "com/example/lumenbus/lumenbus/log/Batch" "bytes" "J" (.long (bt + ((24 : Int64) + (zb.toInt64)))) := F34.same W40
  have O42 : Old Z n0 h40 := O28.wr W40 g_a1
  have E43 : Exa Z h40 a3 "[B" := E29.wr W40
  have V44 : Arv Z h40 a3 kb .byte zb vs dv := V30.other W40 n4
  have E45 : Exa Z h40 a1 "com/example/lumenbus/lumenbus/log/Batch" := E31.wr W40
  have F46 : Fld Z h40 a1 "com/example/lumenbus/lumenbus/log/Batch" "payloads" "Ljava/util/List;" (.ref al) := F32.other W40 (Or.inr (slot_ne (Or.inr (hw _ (List.mem_of_getElem? (i := 36) rfl))) (Or.inl (hw _ (List.mem_of_getElem? (i := 94) rfl))) (by decide) (t := (.object "java/util/List")) (t' := .long) (by decide) (by decide)))
  have F47 : Fld Z h40 a1 "com/example/lumenbus/lumenbus/log/Batch" "timestamps" "[J" (.ref ts) := F33.other W40 (Or.inr (slot_ne (Or.inl (hw _ (List.mem_of_getElem? (i := 39) rfl))) (Or.inl (hw _ (List.mem_of_getElem? (i := 94) rfl))) (by decide) (t := (.array .long)) (t' := .long) (by decide) (by decide)))
  have V48 : Arv Z h40 ts kt .long (16 : Int32) ((TS.set 2 q2).map Value.long) (.long 0) := V35.other W40 (Ne.symm n2)
  have E49 : Exa Z h40 al "java/util/ArrayList" := E37.wr W40
  have V50 : own_ED Z h40 ed := De.other W40 (Ne.symm n7)
  have F51 : Fld Z h40 al "java/util/ArrayList" "elementData" "[Ljava/lang/Object;" (.ref ed) := F37a.other W40 (Or.inl (Ne.symm n1))
  have F52 : Fld Z h40 al "java/util/ArrayList" "size" "I" (.int (3 : Int32)) := F37b.other W40 (Or.inl (Ne.symm n1))
  have F53 : Fld Z h40 al "java/util/AbstractList" "modCount" "I" (.int (mc + 1)) := F37c.other W40 (Or.inl (Ne.symm n1))
  have K54 : Keep h0 h40 [a1, al, ts, ed] := K27.wr W40 (Or.inl (List.mem_of_getElem? (i := 0) rfl))
  have k56 : ∀ t, Steps p.tables e below (T40.setTop (mkF m 74 #[.val (.ref a1), .val (.long q2), .second, .val (.ref a3)] [])) t → Steps p.tables e below (s₁.setTop (entryFrame m #[(.ref a1), (.long q2), (.ref a3)] 4)) t := fun t k => k0 t (by
    show Steps p.tables e below (s₁.setTop (mkF m 0 #[.val (.ref a1), .val (.long q2), .second, .val (.ref a3)] [])) _
    refine XS.aloadN X0.here hx rfl (hb hby d7_0) rfl rfl ?_
    show Steps p.tables e below (s₁.setTop (mkF m 1 #[.val (.ref a1), .val (.long q2), .second, .val (.ref a3)] [(.ref a1)])) _
    refine st3 _ ?_
    show Steps p.tables e below (T3.setTop (mkF m 4 #[.val (.ref a1), .val (.long q2), .second, .val (.ref a3)] [(.ref al)])) _
    refine st4.trans ?_
    show Steps p.tables e below (T4.setTop (mkF m 9 #[.val (.ref a1), .val (.long q2), .second, .val (.ref a3)] [(.int (2 : Int32))])) _
    refine XS.aloadN X4.here hx rfl (hb hby d7_9) rfl rfl ?_
    show Steps p.tables e below (T4.setTop (mkF m 10 #[.val (.ref a1), .val (.long q2), .second, .val (.ref a3)] [(.ref a1), (.int (2 : Int32))])) _
    refine st5 _ ?_
    show Steps p.tables e below (T5.setTop (mkF m 13 #[.val (.ref a1), .val (.long q2), .second, .val (.ref a3)] [(.ref ts), (.int (2 : Int32))])) _
    refine own_len X5 hx hZ e5 V1 (g := (mkF m 13 #[.val (.ref a1), .val (.long q2), .second, .val (.ref a3)] [(.ref ts), (.int (2 : Int32))])) rfl rfl (hb hby d7_13) _ ?_
    show Steps p.tables e below (T5.setTop (mkF m 14 #[.val (.ref a1), .val (.long q2), .second, .val (.ref a3)] [(.int (16 : Int32)), (.int (2 : Int32))])) _
    refine XS.icmpYes X5.here hx rfl (pc0 := 14) (pc' := 35) rfl (hb hby d7_14) rfl (feq (by decide)).2 (by decide) (by decide) ?_
    show Steps p.tables e below (T5.setTop (mkF m 35 #[.val (.ref a1), .val (.long q2), .second, .val (.ref a3)] [])) _
    refine XS.aloadN X5.here hx rfl (hb hby d7_35) rfl rfl ?_
    show Steps p.tables e below (T5.setTop (mkF m 36 #[.val (.ref a1), .val (.long q2), .second, .val (.ref a3)] [(.ref a1)])) _
    refine st6 _ ?_
    show Steps p.tables e below (T6.setTop (mkF m 39 #[.val (.ref a1), .val (.long q2), .second, .val (.ref a3)] [(.ref ts)])) _
    refine XS.aloadN X6.here hx rfl (hb hby d7_39) rfl rfl ?_
    show Steps p.tables e below (T6.setTop (mkF m 40 #[.val (.ref a1), .val (.long q2), .second, .val (.ref a3)] [(.ref a1), (.ref ts)])) _
    refine st7 _ ?_
    show Steps p.tables e below (T7.setTop (mkF m 43 #[.val (.ref a1), .val (.long q2), .second, .val (.ref a3)] [(.ref al), (.ref ts)])) _
    refine st8.trans ?_
    show Steps p.tables e below (T8.setTop (mkF m 48 #[.val (.ref a1), .val (.long q2), .second, .val (.ref a3)] [(.int (2 : Int32)), (.ref ts)])) _
    refine XS.lloadN X8.here hx rfl (hb hby d7_48) rfl ?_
    show Steps p.tables e below (T8.setTop (mkF m 49 #[.val (.ref a1), .val (.long q2), .second, .val (.ref a3)] [(.long q2), (.int (2 : Int32)), (.ref ts)])) _
    refine st9 _ ?_
    show Steps p.tables e below (T9.setTop (mkF m 50 #[.val (.ref a1), .val (.long q2), .second, .val (.ref a3)] [])) _
    refine XS.aloadN X9.here hx rfl (hb hby d7_50) rfl rfl ?_
    show Steps p.tables e below (T9.setTop (mkF m 51 #[.val (.ref a1), .val (.long q2), .second, .val (.ref a3)] [(.ref a1)])) _
    refine st25 _ ?_
    show Steps p.tables e below (T25.setTop (mkF m 54 #[.val (.ref a1), .val (.long q2), .second, .val (.ref a3)] [(.ref al)])) _
    refine XS.aloadN X25.here hx rfl (hb hby d7_54) rfl rfl ?_
    show Steps p.tables e below (T25.setTop (mkF m 55 #[.val (.ref a1), .val (.long q2), .second, .val (.ref a3)] [(.ref a3), (.ref al)])) _
    refine st26.trans ?_
    show Steps p.tables e below (T26.setTop (mkF m 60 #[.val (.ref a1), .val (.long q2), .second, .val (.ref a3)] [(.int (1 : Int32))])) _
    refine XS.pop X26.here hx rfl (hb hby d7_60) rfl rfl ?_
    show Steps p.tables e below (T26.setTop (mkF m 61 #[.val (.ref a1), .val (.long q2), .second, .val (.ref a3)] [])) _
    refine XS.aloadN X26.here hx rfl (hb hby d7_61) rfl rfl ?_
    show Steps p.tables e below (T26.setTop (mkF m 62 #[.val (.ref a1), .val (.long q2), .second, .val (.ref a3)] [(.ref a1)])) _
    refine XS.dup X26.here hx rfl (hb hby d7_62) rfl rfl ?_
    show Steps p.tables e below (T26.setTop (mkF m 63 #[.val (.ref a1), .val (.long q2), .second, .val (.ref a3)] [(.ref a1), (.ref a1)])) _
    refine st38 _ ?_
    show Steps p.tables e below (T38.setTop (mkF m 66 #[.val (.ref a1), .val (.long q2), .second, .val (.ref a3)] [(.long bt), (.ref a1)])) _
    refine XS.aloadN X38.here hx rfl (hb hby d7_66) rfl rfl ?_
    show Steps p.tables e below (T38.setTop (mkF m 67 #[.val (.ref a1), .val (.long q2), .second, .val (.ref a3)] [(.ref a3), (.long bt), (.ref a1)])) _
    refine st39 _ ?_
    show Steps p.tables e below (T39.setTop (mkF m 70 #[.val (.ref a1), .val (.long q2), .second, .val (.ref a3)] [(.long ((24 : Int64) + (zb.toInt64))), (.long bt), (.ref a1)])) _
    refine XS.ladd X39.here hx rfl (hb hby d7_70) rfl ?_
    show Steps p.tables e below (T39.setTop (mkF m 71 #[.val (.ref a1), .val (.long q2), .second, .val (.ref a3)] [(.long (bt + ((24 : Int64) + (zb.toInt64)))), (.ref a1)])) _
    refine st40 _ ?_
    exact k)
  obtain ⟨fs, hr, hrun, hended, hW, hsame⟩ := X40.leave (v := none) (fun _ => rfl) (BodyLoose.notSynchronized Bd)
  refine ⟨_, _, k56 _ ?_, hrun, hended, _, _, rfl, ?_, ⟨_, rfl⟩, hW, hsame.mono (by decide) (by decide)⟩
  · show Steps p.tables e below (T40.setTop (mkF m 74 #[.val (.ref a1), .val (.long q2), .second, .val (.ref a3)] [])) _
    exact X40.returnOut hx Bd.returns (hb hby d7_74) hr
  ·
    show Qput2 _ a1 q2 a3 al ts kt TS bt mc ed kb zb vs dv h0 n0 _ T40.heap _
    rw [e40]
    exact ⟨rfl, N40, K54, _, ⟨E45, F46, F47, F41, V48⟩, ⟨E49, F51, F52, F53⟩, V50⟩
theorem d17_0 : decode prog_31_method_4_code 0 = .ok (.lload_n 0, 1) := by decide +kernel
theorem d17_1 : decode prog_31_method_4_code 1 = .ok (.lconst 0, 1) := by decide +kernel
theorem d17_2 : decode prog_31_method_4_code 2 = .ok (.lcmp, 1) := by decide +kernel
theorem d17_3 : decode prog_31_method_4_code 3 = .ok (.ifCond .ge 17, 3) := by decide +kernel
theorem d17_20 : decode prog_31_method_4_code 20 = .ok (.return_, 1) := by decide +kernel
theorem pn_17 : plainName "com/example/lumenbus/lumenbus/log/Batch" = true := by first | (simp [plainName, overriddenIn]; done) | decide +kernel
theorem ef_check (m : MethodId) (x0 : Int64) : entryFrame m #[(.long x0)] 2 = mkF m 0 #[.val (.long x0), .second] [] := by first | (simp [entryFrame, mkF, argsToLocals, Value.category]; done) | rfl
def Qcheck (Z : State) (q1 : Int64) (h0 : Heap) (n0 : Nat) (v : Option Value) (h : Heap) (L : List Loc) : Prop := v = none ∧ Fr n0 L ∧ h = h0
set_option maxRecDepth 65536 in
set_option maxHeartbeats 40000000 in
theorem rm_check (l : Launch) (Z : State) (a0 : Array Value) (hw : ∀ d ∈ tables_1, d.before a0 Z = true) (ws : List Jvm.Cond) (q1 : Int64) (h0 : Heap) (n0 : Nat) (Z0 : n0 ≤ h0.size) (hq : ¬ q1 < (0 : Int64)) :
    MetFree l (⟨"com/example/lumenbus/lumenbus/log/Batch", "checkTimestamp", "(J)V"⟩ : MethodName) (head1 (Jvm.Cond.code (⟨"com/example/lumenbus/lumenbus/log/Batch", "checkTimestamp", "(J)V"⟩ : MethodName) prog_31_method_4_code 2 none :: ws) ({ frames := 0, cells := 0, slots := 0, locals := 0 } : Room)) (fun a U => a = #[(.long q1)] ∧ Z.Warmed39 U.vm ∧ U.heap = h0) (fun _ _ _ _ _ => True) (fun _ U o U' => ∃ v L, o = .returned v ∧ Qcheck Z q1 h0 n0 v U'.heap L ∧ FrameEnd U o U' L ({ frames := 0, cells := 0, slots := 0, locals := 0 } : Room).cells ({ frames := 0, cells := 0, slots := 0, locals := 0 } : Room).slots) := by
  refine MetFree.of_bodySF (plainFor_of_name pn_17) hisR ?_
  intro p e s m args below meth c s₁ Bd hml0 hP hK
  obtain ⟨rfl, hZ, hh⟩ := hP
  have hx := Bd.exec
  have hby := Bd.bytes
  have hml : c.maxLocals = 2 := hml0
  have hown : s.vm.findClass "com/example/lumenbus/lumenbus/log/Batch" = some m.cls := findClass_of_methodNamed Bd.named
  have hnm := (name_of_methodNamed Bd.named Bd.method).1
  have X0 : Stand p l e ({ frames := 0, cells := 0, slots := 0, locals := 0 } : Room) s m #[(.long q1)] below meth c s₁ [] 0 0 := Stand.of_body Bd
  have e0 : s₁.heap = h0 := by rw [← hh, Bd.state]; rfl
  have N0 := Fr.nil n0
  have k0 : ∀ t, Steps p.tables e below (s₁.setTop (mkF m 0 #[.val (.long q1), .second] [])) t → Steps p.tables e below (s₁.setTop (entryFrame m #[(.long q1)] 2)) t := fun t k => castTop (ef_check m q1) k
  have k2 : ∀ t, Steps p.tables e below (s₁.setTop (mkF m 20 #[.val (.long q1), .second] [])) t → Steps p.tables e below (s₁.setTop (entryFrame m #[(.long q1)] 2)) t := fun t k => k0 t (by
    show Steps p.tables e below (s₁.setTop (mkF m 0 #[.val (.long q1), .second] [])) _
    refine XS.lloadN X0.here hx rfl (hb hby d17_0) rfl ?_
    show Steps p.tables e below (s₁.setTop (mkF m 1 #[.val (.long q1), .second] [(.long q1)])) _
    refine XS.lconst X0.here hx rfl (hb hby d17_1) ?_
    show Steps p.tables e below (s₁.setTop (mkF m 2 #[.val (.long q1), .second] [(.long (0 : Int64)), (.long q1)])) _
    refine XS.lcmp X0.here hx rfl (hb hby d17_2) rfl ?_
    show Steps p.tables e below (s₁.setTop (mkF m 3 #[.val (.long q1), .second] [(.int (lcmpW q1 (0 : Int64)))])) _
    refine XS.ifYes X0.here hx rfl (pc0 := 3) (pc' := 20) rfl (hb hby d17_3) rfl ((if0 _ _).trans (flt (fun q => hq ((lw_lt q1 (0 : Int64)).mp q))).2.1) (by decide) (by decide) ?_
    exact k)
  obtain ⟨fs, hr, hrun, hended, hW, hsame⟩ := X0.leave (v := none) (fun _ => rfl) (BodyLoose.notSynchronized Bd)
  refine ⟨_, _, k2 _ ?_, hrun, hended, _, _, rfl, ?_, ⟨_, rfl⟩, hW, hsame.mono (by decide) (by decide)⟩
  · show Steps p.tables e below (s₁.setTop (mkF m 20 #[.val (.long q1), .second] [])) _
    exact X0.returnOut hx Bd.returns (hb hby d17_20) hr
  ·
    show Qcheck _ q1 h0 n0 _ s₁.heap _
    rw [e0]
    exact ⟨rfl, N0, rfl⟩
theorem pd__J_V : parseMethodDescriptor "(J)V" = some ⟨[.long], none⟩ := by decide +kernel
theorem pd__J_B_V : parseMethodDescriptor "(J[B)V" = some ⟨[.long, (.array .byte)], none⟩ := by decide +kernel
theorem d16_0 : decode prog_31_method_3_code 0 = .ok (.lload_n 1, 1) := by decide +kernel
theorem d16_1 : decode prog_31_method_3_code 1 = .ok (.invokestatic 26, 3) := by decide +kernel
theorem d16_4 : decode prog_31_method_3_code 4 = .ok (.aload_n 0, 1) := by decide +kernel
theorem d16_5 : decode prog_31_method_3_code 5 = .ok (.lload_n 1, 1) := by decide +kernel
theorem d16_6 : decode prog_31_method_3_code 6 = .ok (.aload_n 3, 1) := by decide +kernel
theorem d16_7 : decode prog_31_method_3_code 7 = .ok (.invokevirtual 22, 3) := by decide +kernel
theorem d16_10 : decode prog_31_method_3_code 10 = .ok (.return_, 1) := by decide +kernel
theorem pn_16 : plainName "com/example/lumenbus/lumenbus/log/Batch" = true := by first | (simp [plainName, overriddenIn]; done) | decide +kernel
theorem ef_addT0 (m : MethodId) (x0 : Addr) (x1 : Int64) (x2 : Addr) : entryFrame m #[(.ref x0), (.long x1), (.ref x2)] 4 = mkF m 0 #[.val (.ref x0), .val (.long x1), .second, .val (.ref x2)] [] := by first | (simp [entryFrame, mkF, argsToLocals, Value.category]; done) | rfl
def QaddT0 (Z : State) (a1 : Addr) (q2 : Int64) (a3 : Addr) (al : Addr) (ts : Addr) (kt : ClassId) (TS : List Int64) (bt : Int64) (mc : Int32) (w : Addr) (kw : ClassId) (kb : ClassId) (zb : Int32) (vs : List Value) (dv : Value) (h0 : Heap) (n0 : Nat) (v : Option Value) (h : Heap) (L : List Loc) : Prop := v = none ∧ Fr n0 L ∧ Keep h0 h [a1, al, ts] ∧ ∃ (ed' : Addr) (bt' : Int64), h0.size ≤ ed' ∧ own_B Z h a1 al ts kt (TS.set 0 q2) bt' ∧ own_AL Z h al (.ref ed') 1 (mc + 1) ∧ own_ED Z h ed'
set_option maxRecDepth 65536 in
set_option maxHeartbeats 40000000 in
theorem rm_addT0 (l : Launch) (Z : State) (a0 : Array Value) (hw : ∀ d ∈ tables_1, d.before a0 Z = true) (ws : List Jvm.Cond) (a1 : Addr) (q2 : Int64) (a3 : Addr) (al : Addr) (ts : Addr) (kt : ClassId) (TS : List Int64) (bt : Int64) (mc : Int32) (w : Addr) (kw : ClassId) (kb : ClassId) (zb : Int32) (vs : List Value) (dv : Value) (h0 : Heap) (n0 : Nat) (Z0 : n0 ≤ h0.size) (SB : own_B Z h0 a1 al ts kt TS bt) (SL : own_AL Z h0 al (.ref w) 0 mc) (E_a3 : Exa Z h0 a3 "[B") (V_a3 : Arv Z h0 a3 kb .byte zb vs dv) (O0 : Old Z n0 h0) (lT : TS.length = 16) (g_a1 : n0 ≤ a1) (g_al : n0 ≤ al) (g_ts : n0 ≤ ts) (n1 : a1 ≠ al) (n2 : a1 ≠ ts) (n3 : al ≠ ts) (n4 : a3 ≠ a1) (n5 : a3 ≠ al) (n6 : a3 ≠ ts) (S0 : Sta Z Z.heap "java/util/ArrayList" "DEFAULTCAPACITY_EMPTY_ELEMENTDATA" "[Ljava/lang/Object;" (.ref w)) (A0 : Arv Z Z.heap w kw (.object "java/lang/Object") 0 [] .null) (hq : ¬ q2 < (0 : Int64)) :
    MetFree l (⟨"com/example/lumenbus/lumenbus/log/Batch", "add", "(J[B)V"⟩ : MethodName) (head1 (Jvm.Cond.code (⟨"com/example/lumenbus/lumenbus/log/Batch", "add", "(J[B)V"⟩ : MethodName) prog_31_method_3_code 4 none :: ws) ({ frames := 6, cells := 1, slots := 10, locals := 84 } : Room)) (fun a U => a = #[(.ref a1), (.long q2), (.ref a3)] ∧ Z.Warmed39 U.vm ∧ U.heap = h0) (fun _ _ _ _ _ => True) (fun _ U o U' => ∃ v L, o = .returned v ∧ QaddT0 Z a1 q2 a3 al ts kt TS bt mc w kw kb zb vs dv h0 n0 v U'.heap L ∧ FrameEnd U o U' L ({ frames := 6, cells := 1, slots := 10, locals := 84 } : Room).cells ({ frames := 6, cells := 1, slots := 10, locals := 84 } : Room).slots) := by
  refine MetFree.of_bodySF (plainFor_of_name pn_16) hisR ?_
  intro p e s m args below meth c s₁ Bd hml0 hP hK
  obtain ⟨rfl, hZ, hh⟩ := hP
  have hx := Bd.exec
  have hby := Bd.bytes
  have hml : c.maxLocals = 4 := hml0
  have hown : s.vm.findClass "com/example/lumenbus/lumenbus/log/Batch" = some m.cls := findClass_of_methodNamed Bd.named
  have hnm := (name_of_methodNamed Bd.named Bd.method).1
  have X0 : Stand p l e ({ frames := 6, cells := 1, slots := 10, locals := 84 } : Room) s m #[(.ref a1), (.long q2), (.ref a3)] below meth c s₁ [] 0 0 := Stand.of_body Bd
  have e0 : s₁.heap = h0 := by rw [← hh, Bd.state]; rfl
  have N0 := Fr.nil n0
  have k0 : ∀ t, Steps p.tables e below (s₁.setTop (mkF m 0 #[.val (.ref a1), .val (.long q2), .second, .val (.ref a3)] [])) t → Steps p.tables e below (s₁.setTop (entryFrame m #[(.ref a1), (.long q2), (.ref a3)] 4)) t := fun t k => castTop (ef_addT0 m a1 q2 a3) k
  obtain ⟨_, _, ⟨T1, L1, kk1, n1⟩, -, X1, ⟨Lc1, hQ1, l1, y1, z1⟩, st1⟩ := Jvm.LawKit.callS X0 hx (y := (⟨"com/example/lumenbus/lumenbus/log/Batch", "checkTimestamp", "(J)V"⟩ : MethodName)) hown (mvT hZ (hw _ (List.mem_of_getElem? (i := 110) rfl))) (mvT hZ (hw _ (List.mem_of_getElem? (i := 111) rfl))) (mvT hZ (hw _ (List.mem_of_getElem? (i := 4) rfl))) (mvT hZ (hw _ (List.mem_of_getElem? (i := 112) rfl))) (by decide) (backOf (W := 0) (rm_check l Z a0 hw [] q2 h0 n0 Z0 hq) hZ (hw _ (List.mem_of_getElem? (i := 112) rfl)) (hw _ (List.mem_of_getElem? (i := 4) rfl)) (by decide) (by decide)) (g := (mkF m 1 #[.val (.ref a1), .val (.long q2), .second, .val (.ref a3)] [(.long q2)])) rfl (by rw [hml]; rfl) (argsL := [(.long q2)]) (rest := []) (lenOf pd__J_V rfl) rfl (by show 2 * 0 + _ ≤ _; exact Nat.le_of_eq rfl) (hb hby d16_1) (fun _ _ => ⟨rfl, e0, (by decide : 0 + 0 ≤ _), (by decide : 0 + 0 ≤ _)⟩)
  dsimp only [Pt.U, Pt.locs, Pt.cells, Pt.slots] at X1 l1 y1 z1 st1 hQ1
  subst l1 y1 z1
  obtain ⟨rfl, N1q, qc⟩ := hQ1
  have N1 := Fr.app N0 N1q
  obtain ⟨cpv2, pv2, pv2'⟩ := SB.1.cell
  obtain ⟨_, _, ⟨T2, L2, kk2, n2⟩, -, X2, ⟨Lc2, hQ2, l2, y2, z2⟩, st2⟩ := X1.privateBack hx (y := (⟨"com/example/lumenbus/lumenbus/log/Batch", "put", "(J[B)V"⟩ : MethodName)) hown (mvT hZ (hw _ (List.mem_of_getElem? (i := 46) rfl))) (mvT hZ (hw _ (List.mem_of_getElem? (i := 47) rfl))) (mvT hZ (own_sel (hw _ (List.mem_of_getElem? (i := 47) rfl)) (hw _ (List.mem_of_getElem? (i := 48) rfl)) (hw _ (List.mem_of_getElem? (i := 3) rfl)) (by decide))) (Cond.privateMethod_at (mvP hZ (hw _ (List.mem_of_getElem? (i := 48) rfl)) (args := #[]))) (mvT hZ (hw _ (List.mem_of_getElem? (i := 49) rfl))) (by decide) (backOf (W := 0) (rm_put0 l Z a0 hw [] a1 q2 a3 al ts kt TS bt mc w kw kb zb vs dv h0 n0 Z0 SB SL E_a3 V_a3 O0 lT g_a1 g_al g_ts n1 n2 n3 n4 n5 n6 S0 A0) hZ (hw _ (List.mem_of_getElem? (i := 49) rfl)) (hw _ (List.mem_of_getElem? (i := 4) rfl)) (by decide) (by decide)) (g := (mkF m 7 #[.val (.ref a1), .val (.long q2), .second, .val (.ref a3)] [(.ref a3), (.long q2), (.ref a1)])) rfl (by rw [hml]; rfl) (Steps.refl _) (a := a1) (by rw [qc]; exact pv2) pv2' (argsL := [(.long q2), (.ref a3)]) (rest := []) (lenOf pd__J_B_V rfl) rfl (by show 2 * 0 + _ ≤ _; exact Nat.le_of_eq rfl) (hb hby d16_7) (fun _ _ => ⟨rfl, qc, (by decide : 0 + 1 ≤ _), (by decide : 0 + 10 ≤ _)⟩)
  dsimp only [Pt.U, Pt.locs, Pt.cells, Pt.slots] at X2 l2 y2 z2 st2 hQ2
  subst l2 y2 z2
  obtain ⟨rfl, N2q, Kp, ed', bt', ze, Sb, Sl, De⟩ := hQ2
  have N2 := Fr.app N1 N2q
  have K3 : Keep h0 T2.heap [a1, al, ts] := (Keep.refl h0 [a1, al, ts]).trans Kp (allS (Or.inl (List.mem_of_getElem? (i := 0) rfl)) (allS (Or.inl (List.mem_of_getElem? (i := 1) rfl)) (allS (Or.inl (List.mem_of_getElem? (i := 2) rfl)) all0)))
  have E4 : Exa Z T2.heap a1 "com/example/lumenbus/lumenbus/log/Batch" := SB.1.keep Kp
  have k6 : ∀ t, Steps p.tables e below (T2.setTop (mkF m 10 #[.val (.ref a1), .val (.long q2), .second, .val (.ref a3)] [])) t → Steps p.tables e below (s₁.setTop (entryFrame m #[(.ref a1), (.long q2), (.ref a3)] 4)) t := fun t k => k0 t (by
    show Steps p.tables e below (s₁.setTop (mkF m 0 #[.val (.ref a1), .val (.long q2), .second, .val (.ref a3)] [])) _
    refine XS.lloadN X0.here hx rfl (hb hby d16_0) rfl ?_
    show Steps p.tables e below (s₁.setTop (mkF m 1 #[.val (.ref a1), .val (.long q2), .second, .val (.ref a3)] [(.long q2)])) _
    refine st1 _ ?_
    show Steps p.tables e below (T1.setTop (mkF m 4 #[.val (.ref a1), .val (.long q2), .second, .val (.ref a3)] [])) _
    refine XS.aloadN X1.here hx rfl (hb hby d16_4) rfl rfl ?_
    show Steps p.tables e below (T1.setTop (mkF m 5 #[.val (.ref a1), .val (.long q2), .second, .val (.ref a3)] [(.ref a1)])) _
    refine XS.lloadN X1.here hx rfl (hb hby d16_5) rfl ?_
    show Steps p.tables e below (T1.setTop (mkF m 6 #[.val (.ref a1), .val (.long q2), .second, .val (.ref a3)] [(.long q2), (.ref a1)])) _
    refine XS.aloadN X1.here hx rfl (hb hby d16_6) rfl rfl ?_
    show Steps p.tables e below (T1.setTop (mkF m 7 #[.val (.ref a1), .val (.long q2), .second, .val (.ref a3)] [(.ref a3), (.long q2), (.ref a1)])) _
    refine st2.trans ?_
    exact k)
  obtain ⟨fs, hr, hrun, hended, hW, hsame⟩ := X2.leave (v := none) (fun _ => rfl) (BodyLoose.notSynchronized Bd)
  refine ⟨_, _, k6 _ ?_, hrun, hended, _, _, rfl, ?_, ⟨_, rfl⟩, hW, hsame.mono (by decide) (by decide)⟩
  · show Steps p.tables e below (T2.setTop (mkF m 10 #[.val (.ref a1), .val (.long q2), .second, .val (.ref a3)] [])) _
    exact X2.returnOut hx Bd.returns (hb hby d16_10) hr
  ·
    show QaddT0 _ a1 q2 a3 al ts kt TS bt mc w kw kb zb vs dv h0 n0 _ T2.heap _
    exact ⟨rfl, N2, K3, ed', bt', ze, Sb, Sl, De⟩
theorem d6_0 : decode prog_31_method_2_code 0 = .ok (.aload_n 0, 1) := by decide +kernel
theorem d6_1 : decode prog_31_method_2_code 1 = .ok (.ldc2_w 20, 3) := by decide +kernel
theorem d6_4 : decode prog_31_method_2_code 4 = .ok (.aload_n 1, 1) := by decide +kernel
theorem d6_5 : decode prog_31_method_2_code 5 = .ok (.invokevirtual 22, 3) := by decide +kernel
theorem d6_8 : decode prog_31_method_2_code 8 = .ok (.return_, 1) := by decide +kernel
theorem pn_6 : plainName "com/example/lumenbus/lumenbus/log/Batch" = true := by first | (simp [plainName, overriddenIn]; done) | decide +kernel
theorem ef_addN0 (m : MethodId) (x0 : Addr) (x1 : Addr) : entryFrame m #[(.ref x0), (.ref x1)] 2 = mkF m 0 #[.val (.ref x0), .val (.ref x1)] [] := by first | (simp [entryFrame, mkF, argsToLocals, Value.category]; done) | rfl
def QaddN0 (Z : State) (a1 : Addr) (a3 : Addr) (al : Addr) (ts : Addr) (kt : ClassId) (TS : List Int64) (bt : Int64) (mc : Int32) (w : Addr) (kw : ClassId) (kb : ClassId) (zb : Int32) (vs : List Value) (dv : Value) (h0 : Heap) (n0 : Nat) (v : Option Value) (h : Heap) (L : List Loc) : Prop := v = none ∧ Fr n0 L ∧ Keep h0 h [a1, al, ts] ∧ ∃ (ed' : Addr) (bt' : Int64), h0.size ≤ ed' ∧ own_B Z h a1 al ts kt (TS.set 0 (-1)) bt' ∧ own_AL Z h al (.ref ed') 1 (mc + 1) ∧ own_ED Z h ed'
set_option maxRecDepth 65536 in
set_option maxHeartbeats 40000000 in
theorem rm_addN0 (l : Launch) (Z : State) (a0 : Array Value) (hw : ∀ d ∈ tables_1, d.before a0 Z = true) (ws : List Jvm.Cond) (a1 : Addr) (a3 : Addr) (al : Addr) (ts : Addr) (kt : ClassId) (TS : List Int64) (bt : Int64) (mc : Int32) (w : Addr) (kw : ClassId) (kb : ClassId) (zb : Int32) (vs : List Value) (dv : Value) (h0 : Heap) (n0 : Nat) (Z0 : n0 ≤ h0.size) (SB : own_B Z h0 a1 al ts kt TS bt) (SL : own_AL Z h0 al (.ref w) 0 mc) (E_a3 : Exa Z h0 a3 "[B") (V_a3 : Arv Z h0 a3 kb .byte zb vs dv) (O0 : Old Z n0 h0) (lT : TS.length = 16) (g_a1 : n0 ≤ a1) (g_al : n0 ≤ al) (g_ts : n0 ≤ ts) (n1 : a1 ≠ al) (n2 : a1 ≠ ts) (n3 : al ≠ ts) (n4 : a3 ≠ a1) (n5 : a3 ≠ al) (n6 : a3 ≠ ts) (S0 : Sta Z Z.heap "java/util/ArrayList" "DEFAULTCAPACITY_EMPTY_ELEMENTDATA" "[Ljava/lang/Object;" (.ref w)) (A0 : Arv Z Z.heap w kw (.object "java/lang/Object") 0 [] .null) :
    MetFree l (⟨"com/example/lumenbus/lumenbus/log/Batch", "add", "([B)V"⟩ : MethodName) (head1 (Jvm.Cond.code (⟨"com/example/lumenbus/lumenbus/log/Batch", "add", "([B)V"⟩ : MethodName) prog_31_method_2_code 2 none :: ws) ({ frames := 6, cells := 1, slots := 10, locals := 84 } : Room)) (fun a U => a = #[(.ref a1), (.ref a3)] ∧ Z.Warmed39 U.vm ∧ U.heap = h0) (fun _ _ _ _ _ => True) (fun _ U o U' => ∃ v L, o = .returned v ∧ QaddN0 Z a1 a3 al ts kt TS bt mc w kw kb zb vs dv h0 n0 v U'.heap L ∧ FrameEnd U o U' L ({ frames := 6, cells := 1, slots := 10, locals := 84 } : Room).cells ({ frames := 6, cells := 1, slots := 10, locals := 84 } : Room).slots) := by
  refine MetFree.of_bodySF (plainFor_of_name pn_6) hisR ?_
  intro p e s m args below meth c s₁ Bd hml0 hP hK
  obtain ⟨rfl, hZ, hh⟩ := hP
  have hx := Bd.exec
  have hby := Bd.bytes
  have hml : c.maxLocals = 2 := hml0
  have hown : s.vm.findClass "com/example/lumenbus/lumenbus/log/Batch" = some m.cls := findClass_of_methodNamed Bd.named
  have hnm := (name_of_methodNamed Bd.named Bd.method).1
  have X0 : Stand p l e ({ frames := 6, cells := 1, slots := 10, locals := 84 } : Room) s m #[(.ref a1), (.ref a3)] below meth c s₁ [] 0 0 := Stand.of_body Bd
  have e0 : s₁.heap = h0 := by rw [← hh, Bd.state]; rfl
  have N0 := Fr.nil n0
  have k0 : ∀ t, Steps p.tables e below (s₁.setTop (mkF m 0 #[.val (.ref a1), .val (.ref a3)] [])) t → Steps p.tables e below (s₁.setTop (entryFrame m #[(.ref a1), (.ref a3)] 2)) t := fun t k => castTop (ef_addN0 m a1 a3) k
  obtain ⟨cpv1, pv1, pv1'⟩ := SB.1.cell
  obtain ⟨_, _, ⟨T1, L1, kk1, n1⟩, -, X1, ⟨Lc1, hQ1, l1, y1, z1⟩, st1⟩ := X0.privateBack hx (y := (⟨"com/example/lumenbus/lumenbus/log/Batch", "put", "(J[B)V"⟩ : MethodName)) hown (mvT hZ (hw _ (List.mem_of_getElem? (i := 46) rfl))) (mvT hZ (hw _ (List.mem_of_getElem? (i := 47) rfl))) (mvT hZ (own_sel (hw _ (List.mem_of_getElem? (i := 47) rfl)) (hw _ (List.mem_of_getElem? (i := 48) rfl)) (hw _ (List.mem_of_getElem? (i := 3) rfl)) (by decide))) (Cond.privateMethod_at (mvP hZ (hw _ (List.mem_of_getElem? (i := 48) rfl)) (args := #[]))) (mvT hZ (hw _ (List.mem_of_getElem? (i := 49) rfl))) (by decide) (backOf (W := 0) (rm_put0 l Z a0 hw [] a1 (-1 : Int64) a3 al ts kt TS bt mc w kw kb zb vs dv h0 n0 Z0 SB SL E_a3 V_a3 O0 lT g_a1 g_al g_ts n1 n2 n3 n4 n5 n6 S0 A0) hZ (hw _ (List.mem_of_getElem? (i := 49) rfl)) (hw _ (List.mem_of_getElem? (i := 4) rfl)) (by decide) (by decide)) (g := (mkF m 5 #[.val (.ref a1), .val (.ref a3)] [(.ref a3), (.long (-1 : Int64)), (.ref a1)])) rfl (by rw [hml]; rfl) (Steps.refl _) (a := a1) (by rw [e0]; exact pv1) pv1' (argsL := [(.long (-1 : Int64)), (.ref a3)]) (rest := []) (lenOf pd__J_B_V rfl) rfl (by show 2 * 0 + _ ≤ _; exact Nat.le_of_eq rfl) (hb hby d6_5) (fun _ _ => ⟨rfl, e0, (by decide : 0 + 1 ≤ _), (by decide : 0 + 10 ≤ _)⟩)
  dsimp only [Pt.U, Pt.locs, Pt.cells, Pt.slots] at X1 l1 y1 z1 st1 hQ1
  subst l1 y1 z1
  obtain ⟨rfl, N1q, Kp, ed', bt', ze, Sb, Sl, De⟩ := hQ1
  have N1 := Fr.app N0 N1q
  have K2 : Keep h0 T1.heap [a1, al, ts] := (Keep.refl h0 [a1, al, ts]).trans Kp (allS (Or.inl (List.mem_of_getElem? (i := 0) rfl)) (allS (Or.inl (List.mem_of_getElem? (i := 1) rfl)) (allS (Or.inl (List.mem_of_getElem? (i := 2) rfl)) all0)))
  have E3 : Exa Z T1.heap a1 "com/example/lumenbus/lumenbus/log/Batch" := SB.1.keep Kp
  have k5 : ∀ t, Steps p.tables e below (T1.setTop (mkF m 8 #[.val (.ref a1), .val (.ref a3)] [])) t → Steps p.tables e below (s₁.setTop (entryFrame m #[(.ref a1), (.ref a3)] 2)) t := fun t k => k0 t (by
    show Steps p.tables e below (s₁.setTop (mkF m 0 #[.val (.ref a1), .val (.ref a3)] [])) _
    refine XS.aloadN X0.here hx rfl (hb hby d6_0) rfl rfl ?_
    show Steps p.tables e below (s₁.setTop (mkF m 1 #[.val (.ref a1), .val (.ref a3)] [(.ref a1)])) _
    refine X0.ldc2Long hx hown (mvT hZ (hw _ (List.mem_of_getElem? (i := 45) rfl))) (g := (mkF m 1 #[.val (.ref a1), .val (.ref a3)] [(.ref a1)])) rfl (hb hby d6_1) _ ?_
    show Steps p.tables e below (s₁.setTop (mkF m 4 #[.val (.ref a1), .val (.ref a3)] [(.long (-1 : Int64)), (.ref a1)])) _
    refine XS.aloadN X0.here hx rfl (hb hby d6_4) rfl rfl ?_
    show Steps p.tables e below (s₁.setTop (mkF m 5 #[.val (.ref a1), .val (.ref a3)] [(.ref a3), (.long (-1 : Int64)), (.ref a1)])) _
    refine st1.trans ?_
    exact k)
  obtain ⟨fs, hr, hrun, hended, hW, hsame⟩ := X1.leave (v := none) (fun _ => rfl) (BodyLoose.notSynchronized Bd)
  refine ⟨_, _, k5 _ ?_, hrun, hended, _, _, rfl, ?_, ⟨_, rfl⟩, hW, hsame.mono (by decide) (by decide)⟩
  · show Steps p.tables e below (T1.setTop (mkF m 8 #[.val (.ref a1), .val (.ref a3)] [])) _
    exact X1.returnOut hx Bd.returns (hb hby d6_8) hr
  ·
    show QaddN0 _ a1 a3 al ts kt TS bt mc w kw kb zb vs dv h0 n0 _ T1.heap _
    exact ⟨rfl, N1, K2, ed', bt', ze, Sb, Sl, De⟩
theorem ef_addT1 (m : MethodId) (x0 : Addr) (x1 : Int64) (x2 : Addr) : entryFrame m #[(.ref x0), (.long x1), (.ref x2)] 4 = mkF m 0 #[.val (.ref x0), .val (.long x1), .second, .val (.ref x2)] [] := by first | (simp [entryFrame, mkF, argsToLocals, Value.category]; done) | rfl
def QaddT1 (Z : State) (a1 : Addr) (q2 : Int64) (a3 : Addr) (al : Addr) (ts : Addr) (kt : ClassId) (TS : List Int64) (bt : Int64) (mc : Int32) (ed : Addr) (kb : ClassId) (zb : Int32) (vs : List Value) (dv : Value) (h0 : Heap) (n0 : Nat) (v : Option Value) (h : Heap) (L : List Loc) : Prop := v = none ∧ Fr n0 L ∧ Keep h0 h [a1, al, ts, ed] ∧ ∃ (bt' : Int64), own_B Z h a1 al ts kt (TS.set 1 q2) bt' ∧ own_AL Z h al (.ref ed) 2 (mc + 1) ∧ own_ED Z h ed
set_option maxRecDepth 65536 in
set_option maxHeartbeats 40000000 in
theorem rm_addT1 (l : Launch) (Z : State) (a0 : Array Value) (hw : ∀ d ∈ tables_1, d.before a0 Z = true) (ws : List Jvm.Cond) (a1 : Addr) (q2 : Int64) (a3 : Addr) (al : Addr) (ts : Addr) (kt : ClassId) (TS : List Int64) (bt : Int64) (mc : Int32) (ed : Addr) (kb : ClassId) (zb : Int32) (vs : List Value) (dv : Value) (h0 : Heap) (n0 : Nat) (Z0 : n0 ≤ h0.size) (SB : own_B Z h0 a1 al ts kt TS bt) (SL : own_AL Z h0 al (.ref ed) 1 mc) (E_a3 : Exa Z h0 a3 "[B") (V_a3 : Arv Z h0 a3 kb .byte zb vs dv) (O0 : Old Z n0 h0) (lT : TS.length = 16) (g_a1 : n0 ≤ a1) (g_al : n0 ≤ al) (g_ts : n0 ≤ ts) (n1 : a1 ≠ al) (n2 : a1 ≠ ts) (n3 : al ≠ ts) (n4 : a3 ≠ a1) (n5 : a3 ≠ al) (n6 : a3 ≠ ts) (D1 : own_ED Z h0 ed) (g_ed : n0 ≤ ed) (n7 : a1 ≠ ed) (n8 : al ≠ ed) (n9 : ts ≠ ed) (n10 : a3 ≠ ed) (hq : ¬ q2 < (0 : Int64)) :
    MetFree l (⟨"com/example/lumenbus/lumenbus/log/Batch", "add", "(J[B)V"⟩ : MethodName) (head1 (Jvm.Cond.code (⟨"com/example/lumenbus/lumenbus/log/Batch", "add", "(J[B)V"⟩ : MethodName) prog_31_method_3_code 4 none :: ws) ({ frames := 3, cells := 0, slots := 0, locals := 43 } : Room)) (fun a U => a = #[(.ref a1), (.long q2), (.ref a3)] ∧ Z.Warmed39 U.vm ∧ U.heap = h0) (fun _ _ _ _ _ => True) (fun _ U o U' => ∃ v L, o = .returned v ∧ QaddT1 Z a1 q2 a3 al ts kt TS bt mc ed kb zb vs dv h0 n0 v U'.heap L ∧ FrameEnd U o U' L ({ frames := 3, cells := 0, slots := 0, locals := 43 } : Room).cells ({ frames := 3, cells := 0, slots := 0, locals := 43 } : Room).slots) := by
  refine MetFree.of_bodySF (plainFor_of_name pn_16) hisR ?_
  intro p e s m args below meth c s₁ Bd hml0 hP hK
  obtain ⟨rfl, hZ, hh⟩ := hP
  have hx := Bd.exec
  have hby := Bd.bytes
  have hml : c.maxLocals = 4 := hml0
  have hown : s.vm.findClass "com/example/lumenbus/lumenbus/log/Batch" = some m.cls := findClass_of_methodNamed Bd.named
  have hnm := (name_of_methodNamed Bd.named Bd.method).1
  have X0 : Stand p l e ({ frames := 3, cells := 0, slots := 0, locals := 43 } : Room) s m #[(.ref a1), (.long q2), (.ref a3)] below meth c s₁ [] 0 0 := Stand.of_body Bd
  have e0 : s₁.heap = h0 := by rw [← hh, Bd.state]; rfl
  have N0 := Fr.nil n0
  have k0 : ∀ t, Steps p.tables e below (s₁.setTop (mkF m 0 #[.val (.ref a1), .val (.long q2), .second, .val (.ref a3)] [])) t → Steps p.tables e below (s₁.setTop (entryFrame m #[(.ref a1), (.long q2), (.ref a3)] 4)) t := fun t k => castTop (ef_addT1 m a1 q2 a3) k
  obtain ⟨_, _, ⟨T1, L1, kk1, n1⟩, -, X1, ⟨Lc1, hQ1, l1, y1, z1⟩, st1⟩ := Jvm.LawKit.callS X0 hx (y := (⟨"com/example/lumenbus/lumenbus/log/Batch", "checkTimestamp", "(J)V"⟩ : MethodName)) hown (mvT hZ (hw _ (List.mem_of_getElem? (i := 110) rfl))) (mvT hZ (hw _ (List.mem_of_getElem? (i := 111) rfl))) (mvT hZ (hw _ (List.mem_of_getElem? (i := 4) rfl))) (mvT hZ (hw _ (List.mem_of_getElem? (i := 112) rfl))) (by decide) (backOf (W := 0) (rm_check l Z a0 hw [] q2 h0 n0 Z0 hq) hZ (hw _ (List.mem_of_getElem? (i := 112) rfl)) (hw _ (List.mem_of_getElem? (i := 4) rfl)) (by decide) (by decide)) (g := (mkF m 1 #[.val (.ref a1), .val (.long q2), .second, .val (.ref a3)] [(.long q2)])) rfl (by rw [hml]; rfl) (argsL := [(.long q2)]) (rest := []) (lenOf pd__J_V rfl) rfl (by show 2 * 0 + _ ≤ _; exact Nat.le_of_eq rfl) (hb hby d16_1) (fun _ _ => ⟨rfl, e0, (by decide : 0 + 0 ≤ _), (by decide : 0 + 0 ≤ _)⟩)
  dsimp only [Pt.U, Pt.locs, Pt.cells, Pt.slots] at X1 l1 y1 z1 st1 hQ1
  subst l1 y1 z1
  obtain ⟨rfl, N1q, qc⟩ := hQ1
  have N1 := Fr.app N0 N1q
  obtain ⟨cpv2, pv2, pv2'⟩ := SB.1.cell
  obtain ⟨_, _, ⟨T2, L2, kk2, n2⟩, -, X2, ⟨Lc2, hQ2, l2, y2, z2⟩, st2⟩ := X1.privateBack hx (y := (⟨"com/example/lumenbus/lumenbus/log/Batch", "put", "(J[B)V"⟩ : MethodName)) hown (mvT hZ (hw _ (List.mem_of_getElem? (i := 46) rfl))) (mvT hZ (hw _ (List.mem_of_getElem? (i := 47) rfl))) (mvT hZ (own_sel (hw _ (List.mem_of_getElem? (i := 47) rfl)) (hw _ (List.mem_of_getElem? (i := 48) rfl)) (hw _ (List.mem_of_getElem? (i := 3) rfl)) (by decide))) (Cond.privateMethod_at (mvP hZ (hw _ (List.mem_of_getElem? (i := 48) rfl)) (args := #[]))) (mvT hZ (hw _ (List.mem_of_getElem? (i := 49) rfl))) (by decide) (backOf (W := 0) (rm_put1 l Z a0 hw [] a1 q2 a3 al ts kt TS bt mc ed kb zb vs dv h0 n0 Z0 SB SL E_a3 V_a3 O0 lT g_a1 g_al g_ts n1 n2 n3 n4 n5 n6 D1 g_ed n7 n8 n9 n10) hZ (hw _ (List.mem_of_getElem? (i := 49) rfl)) (hw _ (List.mem_of_getElem? (i := 4) rfl)) (by decide) (by decide)) (g := (mkF m 7 #[.val (.ref a1), .val (.long q2), .second, .val (.ref a3)] [(.ref a3), (.long q2), (.ref a1)])) rfl (by rw [hml]; rfl) (Steps.refl _) (a := a1) (by rw [qc]; exact pv2) pv2' (argsL := [(.long q2), (.ref a3)]) (rest := []) (lenOf pd__J_B_V rfl) rfl (by show 2 * 0 + _ ≤ _; exact Nat.le_of_eq rfl) (hb hby d16_7) (fun _ _ => ⟨rfl, qc, (by decide : 0 + 0 ≤ _), (by decide : 0 + 0 ≤ _)⟩)
  dsimp only [Pt.U, Pt.locs, Pt.cells, Pt.slots] at X2 l2 y2 z2 st2 hQ2
  subst l2 y2 z2
  obtain ⟨rfl, N2q, Kp, bt', Sb, Sl, De⟩ := hQ2
  have N2 := Fr.app N1 N2q
  have K3 : Keep h0 T2.heap [a1, al, ts, ed] := (Keep.refl h0 [a1, al, ts, ed]).trans Kp (allS (Or.inl (List.mem_of_getElem? (i := 0) rfl)) (allS (Or.inl (List.mem_of_getElem? (i := 1) rfl)) (allS (Or.inl (List.mem_of_getElem? (i := 2) rfl)) (allS (Or.inl (List.mem_of_getElem? (i := 3) rfl)) all0))))
  have E4 : Exa Z T2.heap a1 "com/example/lumenbus/lumenbus/log/Batch" := SB.1.keep Kp
  have k6 : ∀ t, Steps p.tables e below (T2.setTop (mkF m 10 #[.val (.ref a1), .val (.long q2), .second, .val (.ref a3)] [])) t → Steps p.tables e below (s₁.setTop (entryFrame m #[(.ref a1), (.long q2), (.ref a3)] 4)) t := fun t k => k0 t (by
    show Steps p.tables e below (s₁.setTop (mkF m 0 #[.val (.ref a1), .val (.long q2), .second, .val (.ref a3)] [])) _
    refine XS.lloadN X0.here hx rfl (hb hby d16_0) rfl ?_
    show Steps p.tables e below (s₁.setTop (mkF m 1 #[.val (.ref a1), .val (.long q2), .second, .val (.ref a3)] [(.long q2)])) _
    refine st1 _ ?_
    show Steps p.tables e below (T1.setTop (mkF m 4 #[.val (.ref a1), .val (.long q2), .second, .val (.ref a3)] [])) _
    refine XS.aloadN X1.here hx rfl (hb hby d16_4) rfl rfl ?_
    show Steps p.tables e below (T1.setTop (mkF m 5 #[.val (.ref a1), .val (.long q2), .second, .val (.ref a3)] [(.ref a1)])) _
    refine XS.lloadN X1.here hx rfl (hb hby d16_5) rfl ?_
    show Steps p.tables e below (T1.setTop (mkF m 6 #[.val (.ref a1), .val (.long q2), .second, .val (.ref a3)] [(.long q2), (.ref a1)])) _
    refine XS.aloadN X1.here hx rfl (hb hby d16_6) rfl rfl ?_
    show Steps p.tables e below (T1.setTop (mkF m 7 #[.val (.ref a1), .val (.long q2), .second, .val (.ref a3)] [(.ref a3), (.long q2), (.ref a1)])) _
    refine st2.trans ?_
    exact k)
  obtain ⟨fs, hr, hrun, hended, hW, hsame⟩ := X2.leave (v := none) (fun _ => rfl) (BodyLoose.notSynchronized Bd)
  refine ⟨_, _, k6 _ ?_, hrun, hended, _, _, rfl, ?_, ⟨_, rfl⟩, hW, hsame.mono (by decide) (by decide)⟩
  · show Steps p.tables e below (T2.setTop (mkF m 10 #[.val (.ref a1), .val (.long q2), .second, .val (.ref a3)] [])) _
    exact X2.returnOut hx Bd.returns (hb hby d16_10) hr
  ·
    show QaddT1 _ a1 q2 a3 al ts kt TS bt mc ed kb zb vs dv h0 n0 _ T2.heap _
    exact ⟨rfl, N2, K3, bt', Sb, Sl, De⟩
theorem ef_addN1 (m : MethodId) (x0 : Addr) (x1 : Addr) : entryFrame m #[(.ref x0), (.ref x1)] 2 = mkF m 0 #[.val (.ref x0), .val (.ref x1)] [] := by first | (simp [entryFrame, mkF, argsToLocals, Value.category]; done) | rfl
def QaddN1 (Z : State) (a1 : Addr) (a3 : Addr) (al : Addr) (ts : Addr) (kt : ClassId) (TS : List Int64) (bt : Int64) (mc : Int32) (ed : Addr) (kb : ClassId) (zb : Int32) (vs : List Value) (dv : Value) (h0 : Heap) (n0 : Nat) (v : Option Value) (h : Heap) (L : List Loc) : Prop := v = none ∧ Fr n0 L ∧ Keep h0 h [a1, al, ts, ed] ∧ ∃ (bt' : Int64), own_B Z h a1 al ts kt (TS.set 1 (-1)) bt' ∧ own_AL Z h al (.ref ed) 2 (mc + 1) ∧ own_ED Z h ed
set_option maxRecDepth 65536 in
set_option maxHeartbeats 40000000 in
theorem rm_addN1 (l : Launch) (Z : State) (a0 : Array Value) (hw : ∀ d ∈ tables_1, d.before a0 Z = true) (ws : List Jvm.Cond) (a1 : Addr) (a3 : Addr) (al : Addr) (ts : Addr) (kt : ClassId) (TS : List Int64) (bt : Int64) (mc : Int32) (ed : Addr) (kb : ClassId) (zb : Int32) (vs : List Value) (dv : Value) (h0 : Heap) (n0 : Nat) (Z0 : n0 ≤ h0.size) (SB : own_B Z h0 a1 al ts kt TS bt) (SL : own_AL Z h0 al (.ref ed) 1 mc) (E_a3 : Exa Z h0 a3 "[B") (V_a3 : Arv Z h0 a3 kb .byte zb vs dv) (O0 : Old Z n0 h0) (lT : TS.length = 16) (g_a1 : n0 ≤ a1) (g_al : n0 ≤ al) (g_ts : n0 ≤ ts) (n1 : a1 ≠ al) (n2 : a1 ≠ ts) (n3 : al ≠ ts) (n4 : a3 ≠ a1) (n5 : a3 ≠ al) (n6 : a3 ≠ ts) (D1 : own_ED Z h0 ed) (g_ed : n0 ≤ ed) (n7 : a1 ≠ ed) (n8 : al ≠ ed) (n9 : ts ≠ ed) (n10 : a3 ≠ ed) :
    MetFree l (⟨"com/example/lumenbus/lumenbus/log/Batch", "add", "([B)V"⟩ : MethodName) (head1 (Jvm.Cond.code (⟨"com/example/lumenbus/lumenbus/log/Batch", "add", "([B)V"⟩ : MethodName) prog_31_method_2_code 2 none :: ws) ({ frames := 3, cells := 0, slots := 0, locals := 43 } : Room)) (fun a U => a = #[(.ref a1), (.ref a3)] ∧ Z.Warmed39 U.vm ∧ U.heap = h0) (fun _ _ _ _ _ => True) (fun _ U o U' => ∃ v L, o = .returned v ∧ QaddN1 Z a1 a3 al ts kt TS bt mc ed kb zb vs dv h0 n0 v U'.heap L ∧ FrameEnd U o U' L ({ frames := 3, cells := 0, slots := 0, locals := 43 } : Room).cells ({ frames := 3, cells := 0, slots := 0, locals := 43 } : Room).slots) := by
  refine MetFree.of_bodySF (plainFor_of_name pn_6) hisR ?_
  intro p e s m args below meth c s₁ Bd hml0 hP hK
  obtain ⟨rfl, hZ, hh⟩ := hP
  have hx := Bd.exec
  have hby := Bd.bytes
  have hml : c.maxLocals = 2 := hml0
  have hown : s.vm.findClass "com/example/lumenbus/lumenbus/log/Batch" = some m.cls := findClass_of_methodNamed Bd.named
  have hnm := (name_of_methodNamed Bd.named Bd.method).1
  have X0 : Stand p l e ({ frames := 3, cells := 0, slots := 0, locals := 43 } : Room) s m #[(.ref a1), (.ref a3)] below meth c s₁ [] 0 0 := Stand.of_body Bd
  have e0 : s₁.heap = h0 := by rw [← hh, Bd.state]; rfl
  have N0 := Fr.nil n0
  have k0 : ∀ t, Steps p.tables e below (s₁.setTop (mkF m 0 #[.val (.ref a1), .val (.ref a3)] [])) t → Steps p.tables e below (s₁.setTop (entryFrame m #[(.ref a1), (.ref a3)] 2)) t := fun t k => castTop (ef_addN1 m a1 a3) k
  obtain ⟨cpv1, pv1, pv1'⟩ := SB.1.cell
  obtain ⟨_, _, ⟨T1, L1, kk1, n1⟩, -, X1, ⟨Lc1, hQ1, l1, y1, z1⟩, st1⟩ := X0.privateBack hx (y := (⟨"com/example/lumenbus/lumenbus/log/Batch", "put", "(J[B)V"⟩ : MethodName)) hown (mvT hZ (hw _ (List.mem_of_getElem? (i := 46) rfl))) (mvT hZ (hw _ (List.mem_of_getElem? (i := 47) rfl))) (mvT hZ (own_sel (hw _ (List.mem_of_getElem? (i := 47) rfl)) (hw _ (List.mem_of_getElem? (i := 48) rfl)) (hw _ (List.mem_of_getElem? (i := 3) rfl)) (by decide))) (Cond.privateMethod_at (mvP hZ (hw _ (List.mem_of_getElem? (i := 48) rfl)) (args := #[]))) (mvT hZ (hw _ (List.mem_of_getElem? (i := 49) rfl))) (by decide) (backOf (W := 0) (rm_put1 l Z a0 hw [] a1 (-1 : Int64) a3 al ts kt TS bt mc ed kb zb vs dv h0 n0 Z0 SB SL E_a3 V_a3 O0 lT g_a1 g_al g_ts n1 n2 n3 n4 n5 n6 D1 g_ed n7 n8 n9 n10) hZ (hw _ (List.mem_of_getElem? (i := 49) rfl)) (hw _ (List.mem_of_getElem? (i := 4) rfl)) (by decide) (by decide)) (g := (mkF m 5 #[.val (.ref a1), .val (.ref a3)] [(.ref a3), (.long (-1 : Int64)), (.ref a1)])) rfl (by rw [hml]; rfl) (Steps.refl _) (a := a1) (by rw [e0]; exact pv1) pv1' (argsL := [(.long (-1 : Int64)), (.ref a3)]) (rest := []) (lenOf pd__J_B_V rfl) rfl (by show 2 * 0 + _ ≤ _; exact Nat.le_of_eq rfl) (hb hby d6_5) (fun _ _ => ⟨rfl, e0, (by decide : 0 + 0 ≤ _), (by decide : 0 + 0 ≤ _)⟩)
  dsimp only [Pt.U, Pt.locs, Pt.cells, Pt.slots] at X1 l1 y1 z1 st1 hQ1
  subst l1 y1 z1
  obtain ⟨rfl, N1q, Kp, bt', Sb, Sl, De⟩ := hQ1
  have N1 := Fr.app N0 N1q
  have K2 : Keep h0 T1.heap [a1, al, ts, ed] := (Keep.refl h0 [a1, al, ts, ed]).trans Kp (allS (Or.inl (List.mem_of_getElem? (i := 0) rfl)) (allS (Or.inl (List.mem_of_getElem? (i := 1) rfl)) (allS (Or.inl (List.mem_of_getElem? (i := 2) rfl)) (allS (Or.inl (List.mem_of_getElem? (i := 3) rfl)) all0))))
  have E3 : Exa Z T1.heap a1 "com/example/lumenbus/lumenbus/log/Batch" := SB.1.keep Kp
  have k5 : ∀ t, Steps p.tables e below (T1.setTop (mkF m 8 #[.val (.ref a1), .val (.ref a3)] [])) t → Steps p.tables e below (s₁.setTop (entryFrame m #[(.ref a1), (.ref a3)] 2)) t := fun t k => k0 t (by
    show Steps p.tables e below (s₁.setTop (mkF m 0 #[.val (.ref a1), .val (.ref a3)] [])) _
    refine XS.aloadN X0.here hx rfl (hb hby d6_0) rfl rfl ?_
    show Steps p.tables e below (s₁.setTop (mkF m 1 #[.val (.ref a1), .val (.ref a3)] [(.ref a1)])) _
    refine X0.ldc2Long hx hown (mvT hZ (hw _ (List.mem_of_getElem? (i := 45) rfl))) (g := (mkF m 1 #[.val (.ref a1), .val (.ref a3)] [(.ref a1)])) rfl (hb hby d6_1) _ ?_
    show Steps p.tables e below (s₁.setTop (mkF m 4 #[.val (.ref a1), .val (.ref a3)] [(.long (-1 : Int64)), (.ref a1)])) _
    refine XS.aloadN X0.here hx rfl (hb hby d6_4) rfl rfl ?_
    show Steps p.tables e below (s₁.setTop (mkF m 5 #[.val (.ref a1), .val (.ref a3)] [(.ref a3), (.long (-1 : Int64)), (.ref a1)])) _
    refine st1.trans ?_
    exact k)
  obtain ⟨fs, hr, hrun, hended, hW, hsame⟩ := X1.leave (v := none) (fun _ => rfl) (BodyLoose.notSynchronized Bd)
  refine ⟨_, _, k5 _ ?_, hrun, hended, _, _, rfl, ?_, ⟨_, rfl⟩, hW, hsame.mono (by decide) (by decide)⟩
  · show Steps p.tables e below (T1.setTop (mkF m 8 #[.val (.ref a1), .val (.ref a3)] [])) _
    exact X1.returnOut hx Bd.returns (hb hby d6_8) hr
  ·
    show QaddN1 _ a1 a3 al ts kt TS bt mc ed kb zb vs dv h0 n0 _ T1.heap _
    exact ⟨rfl, N1, K2, bt', Sb, Sl, De⟩
theorem ef_addT2 (m : MethodId) (x0 : Addr) (x1 : Int64) (x2 : Addr) : entryFrame m #[(.ref x0), (.long x1), (.ref x2)] 4 = mkF m 0 #[.val (.ref x0), .val (.long x1), .second, .val (.ref x2)] [] := by first | (simp [entryFrame, mkF, argsToLocals, Value.category]; done) | rfl
def QaddT2 (Z : State) (a1 : Addr) (q2 : Int64) (a3 : Addr) (al : Addr) (ts : Addr) (kt : ClassId) (TS : List Int64) (bt : Int64) (mc : Int32) (ed : Addr) (kb : ClassId) (zb : Int32) (vs : List Value) (dv : Value) (h0 : Heap) (n0 : Nat) (v : Option Value) (h : Heap) (L : List Loc) : Prop := v = none ∧ Fr n0 L ∧ Keep h0 h [a1, al, ts, ed] ∧ ∃ (bt' : Int64), own_B Z h a1 al ts kt (TS.set 2 q2) bt' ∧ own_AL Z h al (.ref ed) 3 (mc + 1) ∧ own_ED Z h ed
set_option maxRecDepth 65536 in
set_option maxHeartbeats 40000000 in
theorem rm_addT2 (l : Launch) (Z : State) (a0 : Array Value) (hw : ∀ d ∈ tables_1, d.before a0 Z = true) (ws : List Jvm.Cond) (a1 : Addr) (q2 : Int64) (a3 : Addr) (al : Addr) (ts : Addr) (kt : ClassId) (TS : List Int64) (bt : Int64) (mc : Int32) (ed : Addr) (kb : ClassId) (zb : Int32) (vs : List Value) (dv : Value) (h0 : Heap) (n0 : Nat) (Z0 : n0 ≤ h0.size) (SB : own_B Z h0 a1 al ts kt TS bt) (SL : own_AL Z h0 al (.ref ed) 2 mc) (E_a3 : Exa Z h0 a3 "[B") (V_a3 : Arv Z h0 a3 kb .byte zb vs dv) (O0 : Old Z n0 h0) (lT : TS.length = 16) (g_a1 : n0 ≤ a1) (g_al : n0 ≤ al) (g_ts : n0 ≤ ts) (n1 : a1 ≠ al) (n2 : a1 ≠ ts) (n3 : al ≠ ts) (n4 : a3 ≠ a1) (n5 : a3 ≠ al) (n6 : a3 ≠ ts) (D1 : own_ED Z h0 ed) (g_ed : n0 ≤ ed) (n7 : a1 ≠ ed) (n8 : al ≠ ed) (n9 : ts ≠ ed) (n10 : a3 ≠ ed) (hq : ¬ q2 < (0 : Int64)) :
    MetFree l (⟨"com/example/lumenbus/lumenbus/log/Batch", "add", "(J[B)V"⟩ : MethodName) (head1 (Jvm.Cond.code (⟨"com/example/lumenbus/lumenbus/log/Batch", "add", "(J[B)V"⟩ : MethodName) prog_31_method_3_code 4 none :: ws) ({ frames := 3, cells := 0, slots := 0, locals := 43 } : Room)) (fun a U => a = #[(.ref a1), (.long q2), (.ref a3)] ∧ Z.Warmed39 U.vm ∧ U.heap = h0) (fun _ _ _ _ _ => True) (fun _ U o U' => ∃ v L, o = .returned v ∧ QaddT2 Z a1 q2 a3 al ts kt TS bt mc ed kb zb vs dv h0 n0 v U'.heap L ∧ FrameEnd U o U' L ({ frames := 3, cells := 0, slots := 0, locals := 43 } : Room).cells ({ frames := 3, cells := 0, slots := 0, locals := 43 } : Room).slots) := by
  refine MetFree.of_bodySF (plainFor_of_name pn_16) hisR ?_
  intro p e s m args below meth c s₁ Bd hml0 hP hK
  obtain ⟨rfl, hZ, hh⟩ := hP
  have hx := Bd.exec
  have hby := Bd.bytes
  have hml : c.maxLocals = 4 := hml0
  have hown : s.vm.findClass "com/example/lumenbus/lumenbus/log/Batch" = some m.cls := findClass_of_methodNamed Bd.named
  have hnm := (name_of_methodNamed Bd.named Bd.method).1
  have X0 : Stand p l e ({ frames := 3, cells := 0, slots := 0, locals := 43 } : Room) s m #[(.ref a1), (.long q2), (.ref a3)] below meth c s₁ [] 0 0 := Stand.of_body Bd
  have e0 : s₁.heap = h0 := by rw [← hh, Bd.state]; rfl
  have N0 := Fr.nil n0
  have k0 : ∀ t, Steps p.tables e below (s₁.setTop (mkF m 0 #[.val (.ref a1), .val (.long q2), .second, .val (.ref a3)] [])) t → Steps p.tables e below (s₁.setTop (entryFrame m #[(.ref a1), (.long q2), (.ref a3)] 4)) t := fun t k => castTop (ef_addT2 m a1 q2 a3) k
  obtain ⟨_, _, ⟨T1, L1, kk1, n1⟩, -, X1, ⟨Lc1, hQ1, l1, y1, z1⟩, st1⟩ := Jvm.LawKit.callS X0 hx (y := (⟨"com/example/lumenbus/lumenbus/log/Batch", "checkTimestamp", "(J)V"⟩ : MethodName)) hown (mvT hZ (hw _ (List.mem_of_getElem? (i := 110) rfl))) (mvT hZ (hw _ (List.mem_of_getElem? (i := 111) rfl))) (mvT hZ (hw _ (List.mem_of_getElem? (i := 4) rfl))) (mvT hZ (hw _ (List.mem_of_getElem? (i := 112) rfl))) (by decide) (backOf (W := 0) (rm_check l Z a0 hw [] q2 h0 n0 Z0 hq) hZ (hw _ (List.mem_of_getElem? (i := 112) rfl)) (hw _ (List.mem_of_getElem? (i := 4) rfl)) (by decide) (by decide)) (g := (mkF m 1 #[.val (.ref a1), .val (.long q2), .second, .val (.ref a3)] [(.long q2)])) rfl (by rw [hml]; rfl) (argsL := [(.long q2)]) (rest := []) (lenOf pd__J_V rfl) rfl (by show 2 * 0 + _ ≤ _; exact Nat.le_of_eq rfl) (hb hby d16_1) (fun _ _ => ⟨rfl, e0, (by decide : 0 + 0 ≤ _), (by decide : 0 + 0 ≤ _)⟩)
  dsimp only [Pt.U, Pt.locs, Pt.cells, Pt.slots] at X1 l1 y1 z1 st1 hQ1
  subst l1 y1 z1
  obtain ⟨rfl, N1q, qc⟩ := hQ1
  have N1 := Fr.app N0 N1q
  obtain ⟨cpv2, pv2, pv2'⟩ := SB.1.cell
  obtain ⟨_, _, ⟨T2, L2, kk2, n2⟩, -, X2, ⟨Lc2, hQ2, l2, y2, z2⟩, st2⟩ := X1.privateBack hx (y := (⟨"com/example/lumenbus/lumenbus/log/Batch", "put", "(J[B)V"⟩ : MethodName)) hown (mvT hZ (hw _ (List.mem_of_getElem? (i := 46) rfl))) (mvT hZ (hw _ (List.mem_of_getElem? (i := 47) rfl))) (mvT hZ (own_sel (hw _ (List.mem_of_getElem? (i := 47) rfl)) (hw _ (List.mem_of_getElem? (i := 48) rfl)) (hw _ (List.mem_of_getElem? (i := 3) rfl)) (by decide))) (Cond.privateMethod_at (mvP hZ (hw _ (List.mem_of_getElem? (i := 48) rfl)) (args := #[]))) (mvT hZ (hw _ (List.mem_of_getElem? (i := 49) rfl))) (by decide) (backOf (W := 0) (rm_put2 l Z a0 hw [] a1 q2 a3 al ts kt TS bt mc ed kb zb vs dv h0 n0 Z0 SB SL E_a3 V_a3 O0 lT g_a1 g_al g_ts n1 n2 n3 n4 n5 n6 D1 g_ed n7 n8 n9 n10) hZ (hw _ (List.mem_of_getElem? (i := 49) rfl)) (hw _ (List.mem_of_getElem? (i := 4) rfl)) (by decide) (by decide)) (g := (mkF m 7 #[.val (.ref a1), .val (.long q2), .second, .val (.ref a3)] [(.ref a3), (.long q2), (.ref a1)])) rfl (by rw [hml]; rfl) (Steps.refl _) (a := a1) (by rw [qc]; exact pv2) pv2' (argsL := [(.long q2), (.ref a3)]) (rest := []) (lenOf pd__J_B_V rfl) rfl (by show 2 * 0 + _ ≤ _; exact Nat.le_of_eq rfl) (hb hby d16_7) (fun _ _ => ⟨rfl, qc, (by decide : 0 + 0 ≤ _), (by decide : 0 + 0 ≤ _)⟩)
  dsimp only [Pt.U, Pt.locs, Pt.cells, Pt.slots] at X2 l2 y2 z2 st2 hQ2
  subst l2 y2 z2
  obtain ⟨rfl, N2q, Kp, bt', Sb, Sl, De⟩ := hQ2
  have N2 := Fr.app N1 N2q
  have K3 : Keep h0 T2.heap [a1, al, ts, ed] := (Keep.refl h0 [a1, al, ts, ed]).trans Kp (allS (Or.inl (List.mem_of_getElem? (i := 0) rfl)) (allS (Or.inl (List.mem_of_getElem? (i := 1) rfl)) (allS (Or.inl (List.mem_of_getElem? (i := 2) rfl)) (allS (Or.inl (List.mem_of_getElem? (i := 3) rfl)) all0))))
  have E4 : Exa Z T2.heap a1 "com/example/lumenbus/lumenbus/log/Batch" := SB.1.keep Kp
  have k6 : ∀ t, Steps p.tables e below (T2.setTop (mkF m 10 #[.val (.ref a1), .val (.long q2), .second, .val (.ref a3)] [])) t → Steps p.tables e below (s₁.setTop (entryFrame m #[(.ref a1), (.long q2), (.ref a3)] 4)) t := fun t k => k0 t (by
    show Steps p.tables e below (s₁.setTop (mkF m 0 #[.val (.ref a1), .val (.long q2), .second, .val (.ref a3)] [])) _
    refine XS.lloadN X0.here hx rfl (hb hby d16_0) rfl ?_
    show Steps p.tables e below (s₁.setTop (mkF m 1 #[.val (.ref a1), .val (.long q2), .second, .val (.ref a3)] [(.long q2)])) _
    refine st1 _ ?_
    show Steps p.tables e below (T1.setTop (mkF m 4 #[.val (.ref a1), .val (.long q2), .second, .val (.ref a3)] [])) _
    refine XS.aloadN X1.here hx rfl (hb hby d16_4) rfl rfl ?_
    show Steps p.tables e below (T1.setTop (mkF m 5 #[.val (.ref a1), .val (.long q2), .second, .val (.ref a3)] [(.ref a1)])) _
    refine XS.lloadN X1.here hx rfl (hb hby d16_5) rfl ?_
    show Steps p.tables e below (T1.setTop (mkF m 6 #[.val (.ref a1), .val (.long q2), .second, .val (.ref a3)] [(.long q2), (.ref a1)])) _
    refine XS.aloadN X1.here hx rfl (hb hby d16_6) rfl rfl ?_
    show Steps p.tables e below (T1.setTop (mkF m 7 #[.val (.ref a1), .val (.long q2), .second, .val (.ref a3)] [(.ref a3), (.long q2), (.ref a1)])) _
    refine st2.trans ?_
    exact k)
  obtain ⟨fs, hr, hrun, hended, hW, hsame⟩ := X2.leave (v := none) (fun _ => rfl) (BodyLoose.notSynchronized Bd)
  refine ⟨_, _, k6 _ ?_, hrun, hended, _, _, rfl, ?_, ⟨_, rfl⟩, hW, hsame.mono (by decide) (by decide)⟩
  · show Steps p.tables e below (T2.setTop (mkF m 10 #[.val (.ref a1), .val (.long q2), .second, .val (.ref a3)] [])) _
    exact X2.returnOut hx Bd.returns (hb hby d16_10) hr
  ·
    show QaddT2 _ a1 q2 a3 al ts kt TS bt mc ed kb zb vs dv h0 n0 _ T2.heap _
    exact ⟨rfl, N2, K3, bt', Sb, Sl, De⟩
theorem ef_addN2 (m : MethodId) (x0 : Addr) (x1 : Addr) : entryFrame m #[(.ref x0), (.ref x1)] 2 = mkF m 0 #[.val (.ref x0), .val (.ref x1)] [] := by first | (simp [entryFrame, mkF, argsToLocals, Value.category]; done) | rfl
def QaddN2 (Z : State) (a1 : Addr) (a3 : Addr) (al : Addr) (ts : Addr) (kt : ClassId) (TS : List Int64) (bt : Int64) (mc : Int32) (ed : Addr) (kb : ClassId) (zb : Int32) (vs : List Value) (dv : Value) (h0 : Heap) (n0 : Nat) (v : Option Value) (h : Heap) (L : List Loc) : Prop := v = none ∧ Fr n0 L ∧ Keep h0 h [a1, al, ts, ed] ∧ ∃ (bt' : Int64), own_B Z h a1 al ts kt (TS.set 2 (-1)) bt' ∧ own_AL Z h al (.ref ed) 3 (mc + 1) ∧ own_ED Z h ed
set_option maxRecDepth 65536 in
set_option maxHeartbeats 40000000 in
theorem rm_addN2 (l : Launch) (Z : State) (a0 : Array Value) (hw : ∀ d ∈ tables_1, d.before a0 Z = true) (ws : List Jvm.Cond) (a1 : Addr) (a3 : Addr) (al : Addr) (ts : Addr) (kt : ClassId) (TS : List Int64) (bt : Int64) (mc : Int32) (ed : Addr) (kb : ClassId) (zb : Int32) (vs : List Value) (dv : Value) (h0 : Heap) (n0 : Nat) (Z0 : n0 ≤ h0.size) (SB : own_B Z h0 a1 al ts kt TS bt) (SL : own_AL Z h0 al (.ref ed) 2 mc) (E_a3 : Exa Z h0 a3 "[B") (V_a3 : Arv Z h0 a3 kb .byte zb vs dv) (O0 : Old Z n0 h0) (lT : TS.length = 16) (g_a1 : n0 ≤ a1) (g_al : n0 ≤ al) (g_ts : n0 ≤ ts) (n1 : a1 ≠ al) (n2 : a1 ≠ ts) (n3 : al ≠ ts) (n4 : a3 ≠ a1) (n5 : a3 ≠ al) (n6 : a3 ≠ ts) (D1 : own_ED Z h0 ed) (g_ed : n0 ≤ ed) (n7 : a1 ≠ ed) (n8 : al ≠ ed) (n9 : ts ≠ ed) (n10 : a3 ≠ ed) :
    MetFree l (⟨"com/example/lumenbus/lumenbus/log/Batch", "add", "([B)V"⟩ : MethodName) (head1 (Jvm.Cond.code (⟨"com/example/lumenbus/lumenbus/log/Batch", "add", "([B)V"⟩ : MethodName) prog_31_method_2_code 2 none :: ws) ({ frames := 3, cells := 0, slots := 0, locals := 43 } : Room)) (fun a U => a = #[(.ref a1), (.ref a3)] ∧ Z.Warmed39 U.vm ∧ U.heap = h0) (fun _ _ _ _ _ => True) (fun _ U o U' => ∃ v L, o = .returned v ∧ QaddN2 Z a1 a3 al ts kt TS bt mc ed kb zb vs dv h0 n0 v U'.heap L ∧ FrameEnd U o U' L ({ frames := 3, cells := 0, slots := 0, locals := 43 } : Room).cells ({ frames := 3, cells := 0, slots := 0, locals := 43 } : Room).slots) := by
  refine MetFree.of_bodySF (plainFor_of_name pn_6) hisR ?_
  intro p e s m args below meth c s₁ Bd hml0 hP hK
  obtain ⟨rfl, hZ, hh⟩ := hP
  have hx := Bd.exec
  have hby := Bd.bytes
  have hml : c.maxLocals = 2 := hml0
  have hown : s.vm.findClass "com/example/lumenbus/lumenbus/log/Batch" = some m.cls := findClass_of_methodNamed Bd.named
  have hnm := (name_of_methodNamed Bd.named Bd.method).1
  have X0 : Stand p l e ({ frames := 3, cells := 0, slots := 0, locals := 43 } : Room) s m #[(.ref a1), (.ref a3)] below meth c s₁ [] 0 0 := Stand.of_body Bd
  have e0 : s₁.heap = h0 := by rw [← hh, Bd.state]; rfl
  have N0 := Fr.nil n0
  have k0 : ∀ t, Steps p.tables e below (s₁.setTop (mkF m 0 #[.val (.ref a1), .val (.ref a3)] [])) t → Steps p.tables e below (s₁.setTop (entryFrame m #[(.ref a1), (.ref a3)] 2)) t := fun t k => castTop (ef_addN2 m a1 a3) k
  obtain ⟨cpv1, pv1, pv1'⟩ := SB.1.cell
  obtain ⟨_, _, ⟨T1, L1, kk1, n1⟩, -, X1, ⟨Lc1, hQ1, l1, y1, z1⟩, st1⟩ := X0.privateBack hx (y := (⟨"com/example/lumenbus/lumenbus/log/Batch", "put", "(J[B)V"⟩ : MethodName)) hown (mvT hZ (hw _ (List.mem_of_getElem? (i := 46) rfl))) (mvT hZ (hw _ (List.mem_of_getElem? (i := 47) rfl))) (mvT hZ (own_sel (hw _ (List.mem_of_getElem? (i := 47) rfl)) (hw _ (List.mem_of_getElem? (i := 48) rfl)) (hw _ (List.mem_of_getElem? (i := 3) rfl)) (by decide))) (Cond.privateMethod_at (mvP hZ (hw _ (List.mem_of_getElem? (i := 48) rfl)) (args := #[]))) (mvT hZ (hw _ (List.mem_of_getElem? (i := 49) rfl))) (by decide) (backOf (W := 0) (rm_put2 l Z a0 hw [] a1 (-1 : Int64) a3 al ts kt TS bt mc ed kb zb vs dv h0 n0 Z0 SB SL E_a3 V_a3 O0 lT g_a1 g_al g_ts n1 n2 n3 n4 n5 n6 D1 g_ed n7 n8 n9 n10) hZ (hw _ (List.mem_of_getElem? (i := 49) rfl)) (hw _ (List.mem_of_getElem? (i := 4) rfl)) (by decide) (by decide)) (g := (mkF m 5 #[.val (.ref a1), .val (.ref a3)] [(.ref a3), (.long (-1 : Int64)), (.ref a1)])) rfl (by rw [hml]; rfl) (Steps.refl _) (a := a1) (by rw [e0]; exact pv1) pv1' (argsL := [(.long (-1 : Int64)), (.ref a3)]) (rest := []) (lenOf pd__J_B_V rfl) rfl (by show 2 * 0 + _ ≤ _; exact Nat.le_of_eq rfl) (hb hby d6_5) (fun _ _ => ⟨rfl, e0, (by decide : 0 + 0 ≤ _), (by decide : 0 + 0 ≤ _)⟩)
  dsimp only [Pt.U, Pt.locs, Pt.cells, Pt.slots] at X1 l1 y1 z1 st1 hQ1
  subst l1 y1 z1
  obtain ⟨rfl, N1q, Kp, bt', Sb, Sl, De⟩ := hQ1
  have N1 := Fr.app N0 N1q
  have K2 : Keep h0 T1.heap [a1, al, ts, ed] := (Keep.refl h0 [a1, al, ts, ed]).trans Kp (allS (Or.inl (List.mem_of_getElem? (i := 0) rfl)) (allS (Or.inl (List.mem_of_getElem? (i := 1) rfl)) (allS (Or.inl (List.mem_of_getElem? (i := 2) rfl)) (allS (Or.inl (List.mem_of_getElem? (i := 3) rfl)) all0))))
  have E3 : Exa Z T1.heap a1 "com/example/lumenbus/lumenbus/log/Batch" := SB.1.keep Kp
  have k5 : ∀ t, Steps p.tables e below (T1.setTop (mkF m 8 #[.val (.ref a1), .val (.ref a3)] [])) t → Steps p.tables e below (s₁.setTop (entryFrame m #[(.ref a1), (.ref a3)] 2)) t := fun t k => k0 t (by
    show Steps p.tables e below (s₁.setTop (mkF m 0 #[.val (.ref a1), .val (.ref a3)] [])) _
    refine XS.aloadN X0.here hx rfl (hb hby d6_0) rfl rfl ?_
    show Steps p.tables e below (s₁.setTop (mkF m 1 #[.val (.ref a1), .val (.ref a3)] [(.ref a1)])) _
    refine X0.ldc2Long hx hown (mvT hZ (hw _ (List.mem_of_getElem? (i := 45) rfl))) (g := (mkF m 1 #[.val (.ref a1), .val (.ref a3)] [(.ref a1)])) rfl (hb hby d6_1) _ ?_
    show Steps p.tables e below (s₁.setTop (mkF m 4 #[.val (.ref a1), .val (.ref a3)] [(.long (-1 : Int64)), (.ref a1)])) _
    refine XS.aloadN X0.here hx rfl (hb hby d6_4) rfl rfl ?_
    show Steps p.tables e below (s₁.setTop (mkF m 5 #[.val (.ref a1), .val (.ref a3)] [(.ref a3), (.long (-1 : Int64)), (.ref a1)])) _
    refine st1.trans ?_
    exact k)
  obtain ⟨fs, hr, hrun, hended, hW, hsame⟩ := X1.leave (v := none) (fun _ => rfl) (BodyLoose.notSynchronized Bd)
  refine ⟨_, _, k5 _ ?_, hrun, hended, _, _, rfl, ?_, ⟨_, rfl⟩, hW, hsame.mono (by decide) (by decide)⟩
  · show Steps p.tables e below (T1.setTop (mkF m 8 #[.val (.ref a1), .val (.ref a3)] [])) _
    exact X1.returnOut hx Bd.returns (hb hby d6_8) hr
  ·
    show QaddN2 _ a1 a3 al ts kt TS bt mc ed kb zb vs dv h0 n0 _ T1.heap _
    exact ⟨rfl, N1, K2, bt', Sb, Sl, De⟩
def own_ts (TS : List Int64) (i : Int32) (q : Int64) : Int64 := if TS.getD i.toNatClampNeg 0 = (-1 : Int64) then q else TS.getD i.toNatClampNeg 0
theorem d15_0 : decode prog_31_method_13_code 0 = .ok (.aload_n 0, 1) := by decide +kernel
theorem d15_1 : decode prog_31_method_13_code 1 = .ok (.getfield 16, 3) := by decide +kernel
theorem d15_4 : decode prog_31_method_13_code 4 = .ok (.iload_n 1, 1) := by decide +kernel
theorem d15_5 : decode prog_31_method_13_code 5 = .ok (.laload, 1) := by decide +kernel
theorem d15_6 : decode prog_31_method_13_code 6 = .ok (.lstore 4, 2) := by decide +kernel
theorem d15_8 : decode prog_31_method_13_code 8 = .ok (.lload 4, 2) := by decide +kernel
theorem d15_10 : decode prog_31_method_13_code 10 = .ok (.ldc2_w 20, 3) := by decide +kernel
theorem d15_13 : decode prog_31_method_13_code 13 = .ok (.lcmp, 1) := by decide +kernel
theorem d15_14 : decode prog_31_method_13_code 14 = .ok (.ifCond .ne 7, 3) := by decide +kernel
theorem d15_17 : decode prog_31_method_13_code 17 = .ok (.lload_n 2, 1) := by decide +kernel
theorem d15_18 : decode prog_31_method_13_code 18 = .ok (.goto 5, 3) := by decide +kernel
theorem d15_21 : decode prog_31_method_13_code 21 = .ok (.lload 4, 2) := by decide +kernel
theorem d15_23 : decode prog_31_method_13_code 23 = .ok (.lreturn, 1) := by decide +kernel
theorem pn_15 : plainName "com/example/lumenbus/lumenbus/log/Batch" = true := by first | (simp [plainName, overriddenIn]; done) | decide +kernel
theorem ef_stamp (m : MethodId) (x0 : Addr) (x1 : Int32) (x2 : Int64) : entryFrame m #[(.ref x0), (.int x1), (.long x2)] 6 = mkF m 0 #[.val (.ref x0), .val (.int x1), .val (.long x2), .second, .unset, .unset] [] := by first | (simp [entryFrame, mkF, argsToLocals, Value.category]; done) | rfl
def Qstamp (Z : State) (a1 : Addr) (p2 : Int32) (q3 : Int64) (ts : Addr) (kt : ClassId) (TS : List Int64) (h0 : Heap) (n0 : Nat) (v : Option Value) (h : Heap) (L : List Loc) : Prop := v = some (.long (own_ts TS p2 q3)) ∧ Fr n0 L ∧ h = h0
set_option maxRecDepth 65536 in
set_option maxHeartbeats 40000000 in
theorem rm_stamp (l : Launch) (Z : State) (a0 : Array Value) (hw : ∀ d ∈ tables_1, d.before a0 Z = true) (ws : List Jvm.Cond) (a1 : Addr) (p2 : Int32) (q3 : Int64) (ts : Addr) (kt : ClassId) (TS : List Int64) (h0 : Heap) (n0 : Nat) (Z0 : n0 ≤ h0.size) (F1 : Fld Z h0 a1 "com/example/lumenbus/lumenbus/log/Batch" "timestamps" "[J" (.ref ts)) (V1 : Arv Z h0 ts kt .long 16 (TS.map Value.long) (.long 0)) (hp : ¬ p2 < 0 ∧ p2 < (16 : Int32)) :
    MetFree l (⟨"com/example/lumenbus/lumenbus/log/Batch", "timestamp", "(IJ)J"⟩ : MethodName) (head1 (Jvm.Cond.code (⟨"com/example/lumenbus/lumenbus/log/Batch", "timestamp", "(IJ)J"⟩ : MethodName) prog_31_method_13_code 6 (some .long) :: ws) ({ frames := 0, cells := 0, slots := 0, locals := 0 } : Room)) (fun a U => a = #[(.ref a1), (.int p2), (.long q3)] ∧ Z.Warmed39 U.vm ∧ U.heap = h0) (fun _ _ _ _ _ => True) (fun _ U o U' => ∃ v L, o = .returned v ∧ Qstamp Z a1 p2 q3 ts kt TS h0 n0 v U'.heap L ∧ FrameEnd U o U' L ({ frames := 0, cells := 0, slots := 0, locals := 0 } : Room).cells ({ frames := 0, cells := 0, slots := 0, locals := 0 } : Room).slots) := by
  refine MetFree.of_bodySF (plainFor_of_name pn_15) hisR ?_
  intro p e s m args below meth c s₁ Bd hml0 hP hK
  obtain ⟨rfl, hZ, hh⟩ := hP
  have hx := Bd.exec
  have hby := Bd.bytes
  have hml : c.maxLocals = 6 := hml0
  have hown : s.vm.findClass "com/example/lumenbus/lumenbus/log/Batch" = some m.cls := findClass_of_methodNamed Bd.named
  have hnm := (name_of_methodNamed Bd.named Bd.method).1
  have X0 : Stand p l e ({ frames := 0, cells := 0, slots := 0, locals := 0 } : Room) s m #[(.ref a1), (.int p2), (.long q3)] below meth c s₁ [] 0 0 := Stand.of_body Bd
  have e0 : s₁.heap = h0 := by rw [← hh, Bd.state]; rfl
  have N0 := Fr.nil n0
  have k0 : ∀ t, Steps p.tables e below (s₁.setTop (mkF m 0 #[.val (.ref a1), .val (.int p2), .val (.long q3), .second, .unset, .unset] [])) t → Steps p.tables e below (s₁.setTop (entryFrame m #[(.ref a1), (.int p2), (.long q3)] 6)) t := fun t k => castTop (ef_stamp m a1 p2 q3) k
  obtain ⟨T1, X1, e1, st1⟩ := getF X0 hx hZ hown (host := "") (Or.inl (hw _ (List.mem_of_getElem? (i := 38) rfl))) Via.refl e0 F1 (g := (mkF m 1 #[.val (.ref a1), .val (.int p2), .val (.long q3), .second, .unset, .unset] [(.ref a1)])) rfl rfl (hb hby d15_1)
  have k2 : ∀ t, Steps p.tables e below (T1.setTop (mkF m 14 #[.val (.ref a1), .val (.int p2), .val (.long q3), .second, .val (.long (TS.getD p2.toNatClampNeg 0)), .second] [(.int (lcmpW (TS.getD p2.toNatClampNeg 0) (-1 : Int64)))])) t → Steps p.tables e below (s₁.setTop (entryFrame m #[(.ref a1), (.int p2), (.long q3)] 6)) t := fun t k => k0 t (by
    show Steps p.tables e below (s₁.setTop (mkF m 0 #[.val (.ref a1), .val (.int p2), .val (.long q3), .second, .unset, .unset] [])) _
    refine XS.aloadN X0.here hx rfl (hb hby d15_0) rfl rfl ?_
    show Steps p.tables e below (s₁.setTop (mkF m 1 #[.val (.ref a1), .val (.int p2), .val (.long q3), .second, .unset, .unset] [(.ref a1)])) _
    refine st1 _ ?_
    show Steps p.tables e below (T1.setTop (mkF m 4 #[.val (.ref a1), .val (.int p2), .val (.long q3), .second, .unset, .unset] [(.ref ts)])) _
    refine XS.iloadN X1.here hx rfl (hb hby d15_4) rfl ?_
    show Steps p.tables e below (T1.setTop (mkF m 5 #[.val (.ref a1), .val (.int p2), .val (.long q3), .second, .unset, .unset] [(.int p2), (.ref ts)])) _
    refine own_ldJ X1 hx hZ e1 V1 hp (g := (mkF m 5 #[.val (.ref a1), .val (.int p2), .val (.long q3), .second, .unset, .unset] [(.int p2), (.ref ts)])) rfl rfl (hb hby d15_5) _ ?_
    show Steps p.tables e below (T1.setTop (mkF m 6 #[.val (.ref a1), .val (.int p2), .val (.long q3), .second, .unset, .unset] [(.long (TS.getD p2.toNatClampNeg 0))])) _
    refine XS.lstore X1.here hx rfl (hb hby d15_6) rfl (l' := #[.val (.ref a1), .val (.int p2), .val (.long q3), .second, .val (.long (TS.getD p2.toNatClampNeg 0)), .second]) rfl ?_
    show Steps p.tables e below (T1.setTop (mkF m 8 #[.val (.ref a1), .val (.int p2), .val (.long q3), .second, .val (.long (TS.getD p2.toNatClampNeg 0)), .second] [])) _
    refine XS.lload X1.here hx rfl (hb hby d15_8) rfl ?_
    show Steps p.tables e below (T1.setTop (mkF m 10 #[.val (.ref a1), .val (.int p2), .val (.long q3), .second, .val (.long (TS.getD p2.toNatClampNeg 0)), .second] [(.long (TS.getD p2.toNatClampNeg 0))])) _
    refine X1.ldc2Long hx hown (mvT hZ (hw _ (List.mem_of_getElem? (i := 45) rfl))) (g := (mkF m 10 #[.val (.ref a1), .val (.int p2), .val (.long q3), .second, .val (.long (TS.getD p2.toNatClampNeg 0)), .second] [(.long (TS.getD p2.toNatClampNeg 0))])) rfl (hb hby d15_10) _ ?_
    show Steps p.tables e below (T1.setTop (mkF m 13 #[.val (.ref a1), .val (.int p2), .val (.long q3), .second, .val (.long (TS.getD p2.toNatClampNeg 0)), .second] [(.long (-1 : Int64)), (.long (TS.getD p2.toNatClampNeg 0))])) _
    refine XS.lcmp X1.here hx rfl (hb hby d15_13) rfl ?_
    exact k)
  by_cases cd14 : (TS.getD p2.toNatClampNeg 0) = (-1 : Int64)
  ·
    have hv : own_ts TS p2 q3 = q3 := if_pos cd14
    have k4 : ∀ t, Steps p.tables e below (T1.setTop (mkF m 23 #[.val (.ref a1), .val (.int p2), .val (.long q3), .second, .val (.long (TS.getD p2.toNatClampNeg 0)), .second] [(.long q3)])) t → Steps p.tables e below (s₁.setTop (entryFrame m #[(.ref a1), (.int p2), (.long q3)] 6)) t := fun t k => k2 t (by
      show Steps p.tables e below (T1.setTop (mkF m 14 #[.val (.ref a1), .val (.int p2), .val (.long q3), .second, .val (.long (TS.getD p2.toNatClampNeg 0)), .second] [(.int (lcmpW (TS.getD p2.toNatClampNeg 0) (-1 : Int64)))])) _
      refine XS.ifNo X1.here hx rfl (hb hby d15_14) rfl ((if0 _ _).trans (teq ((lw_eq (TS.getD p2.toNatClampNeg 0) (-1 : Int64)).mpr cd14)).2) ?_
      show Steps p.tables e below (T1.setTop (mkF m 17 #[.val (.ref a1), .val (.int p2), .val (.long q3), .second, .val (.long (TS.getD p2.toNatClampNeg 0)), .second] [])) _
      refine XS.lloadN X1.here hx rfl (hb hby d15_17) rfl ?_
      show Steps p.tables e below (T1.setTop (mkF m 18 #[.val (.ref a1), .val (.int p2), .val (.long q3), .second, .val (.long (TS.getD p2.toNatClampNeg 0)), .second] [(.long q3)])) _
      refine XS.goto X1.here hx rfl (pc0 := 18) (pc' := 23) rfl (hb hby d15_18) (by decide) (by decide) ?_
      exact k)
    obtain ⟨fs, hr, hrun, hended, hW, hsame⟩ := X1.leave (v := some (.long q3)) (fun h => by rw [Bd.returns] at h; cases h) (BodyLoose.notSynchronized Bd)
    refine ⟨_, _, k4 _ ?_, hrun, hended, _, _, rfl, ?_, ⟨_, rfl⟩, hW, hsame.mono (by decide) (by decide)⟩
    · show Steps p.tables e below (T1.setTop (mkF m 23 #[.val (.ref a1), .val (.int p2), .val (.long q3), .second, .val (.long (TS.getD p2.toNatClampNeg 0)), .second] [(.long q3)])) _
      exact X1.lreturnOut hx Bd.returns (hb hby d15_23) hr
    ·
      show Qstamp _ a1 p2 q3 ts kt TS h0 n0 _ T1.heap _
      rw [e1]
      exact ⟨by rw [hv], N0, rfl⟩
  ·
    have hv : own_ts TS p2 q3 = (TS.getD p2.toNatClampNeg 0) := if_neg cd14
    have k6 : ∀ t, Steps p.tables e below (T1.setTop (mkF m 23 #[.val (.ref a1), .val (.int p2), .val (.long q3), .second, .val (.long (TS.getD p2.toNatClampNeg 0)), .second] [(.long (TS.getD p2.toNatClampNeg 0))])) t → Steps p.tables e below (s₁.setTop (entryFrame m #[(.ref a1), (.int p2), (.long q3)] 6)) t := fun t k => k2 t (by
      show Steps p.tables e below (T1.setTop (mkF m 14 #[.val (.ref a1), .val (.int p2), .val (.long q3), .second, .val (.long (TS.getD p2.toNatClampNeg 0)), .second] [(.int (lcmpW (TS.getD p2.toNatClampNeg 0) (-1 : Int64)))])) _
      refine XS.ifYes X1.here hx rfl (pc0 := 14) (pc' := 21) rfl (hb hby d15_14) rfl ((if0 _ _).trans (feq (fun q => cd14 ((lw_eq (TS.getD p2.toNatClampNeg 0) (-1 : Int64)).mp q))).2) (by decide) (by decide) ?_
      show Steps p.tables e below (T1.setTop (mkF m 21 #[.val (.ref a1), .val (.int p2), .val (.long q3), .second, .val (.long (TS.getD p2.toNatClampNeg 0)), .second] [])) _
      refine XS.lload X1.here hx rfl (hb hby d15_21) rfl ?_
      exact k)
    obtain ⟨fs, hr, hrun, hended, hW, hsame⟩ := X1.leave (v := some (.long (TS.getD p2.toNatClampNeg 0))) (fun h => by rw [Bd.returns] at h; cases h) (BodyLoose.notSynchronized Bd)
    refine ⟨_, _, k6 _ ?_, hrun, hended, _, _, rfl, ?_, ⟨_, rfl⟩, hW, hsame.mono (by decide) (by decide)⟩
    · show Steps p.tables e below (T1.setTop (mkF m 23 #[.val (.ref a1), .val (.int p2), .val (.long q3), .second, .val (.long (TS.getD p2.toNatClampNeg 0)), .second] [(.long (TS.getD p2.toNatClampNeg 0))])) _
      exact X1.lreturnOut hx Bd.returns (hb hby d15_23) hr
    ·
      show Qstamp _ a1 p2 q3 ts kt TS h0 n0 _ T1.heap _
      rw [e1]
      exact ⟨by rw [hv], N0, rfl⟩
theorem d1_0 : decode prog_31_method_1_code 0 = .ok (.aload_n 0, 1) := by decide +kernel
theorem d1_1 : decode prog_31_method_1_code 1 = .ok (.invokespecial 1, 3) := by decide +kernel
theorem d1_4 : decode prog_31_method_1_code 4 = .ok (.aload_n 0, 1) := by decide +kernel
theorem d1_5 : decode prog_31_method_1_code 5 = .ok (.new 7, 3) := by decide +kernel
theorem d1_8 : decode prog_31_method_1_code 8 = .ok (.dup, 1) := by decide +kernel
theorem d1_9 : decode prog_31_method_1_code 9 = .ok (.invokespecial 9, 3) := by decide +kernel
theorem d1_12 : decode prog_31_method_1_code 12 = .ok (.putfield 10, 3) := by decide +kernel
theorem d1_15 : decode prog_31_method_1_code 15 = .ok (.aload_n 0, 1) := by decide +kernel
theorem d1_16 : decode prog_31_method_1_code 16 = .ok (.bipush 16, 2) := by decide +kernel
theorem d1_18 : decode prog_31_method_1_code 18 = .ok (.newarray .long, 2) := by decide +kernel
theorem d1_20 : decode prog_31_method_1_code 20 = .ok (.putfield 16, 3) := by decide +kernel
theorem d1_23 : decode prog_31_method_1_code 23 = .ok (.return_, 1) := by decide +kernel
theorem pn_1 : plainName "com/example/lumenbus/lumenbus/log/Batch" = true := by first | (simp [plainName, overriddenIn]; done) | decide +kernel
theorem ef_binit (m : MethodId) (x0 : Addr) : entryFrame m #[(.ref x0)] 1 = mkF m 0 #[.val (.ref x0)] [] := by first | (simp [entryFrame, mkF, argsToLocals, Value.category]; done) | rfl
def Qbinit (Z : State) (a1 : Addr) (w : Addr) (kw : ClassId) (h0 : Heap) (n0 : Nat) (v : Option Value) (h : Heap) (L : List Loc) : Prop := v = none ∧ Fr n0 L ∧ Keep h0 h [a1] ∧ ∃ (al ts : Addr) (kt : ClassId), (h0.size ≤ al ∧ h0.size ≤ ts ∧ al ≠ ts) ∧ own_B Z h a1 al ts kt ([0, 0, 0, 0, 0, 0, 0, 0, 0, 0, 0, 0, 0, 0, 0, 0] : List Int64) 0 ∧ own_AL Z h al (.ref w) 0 0
set_option maxRecDepth 65536 in
set_option maxHeartbeats 40000000 in
theorem rm_binit (l : Launch) (Z : State) (a0 : Array Value) (hw : ∀ d ∈ tables_1, d.before a0 Z = true) (ws : List Jvm.Cond) (a1 : Addr) (w : Addr) (kw : ClassId) (h0 : Heap) (n0 : Nat) (Z0 : n0 ≤ h0.size) (E_a1 : Exa Z h0 a1 "com/example/lumenbus/lumenbus/log/Batch") (F_payloads : Fld Z h0 a1 "com/example/lumenbus/lumenbus/log/Batch" "payloads" "Ljava/util/List;" .null) (F_timestamps : Fld Z h0 a1 "com/example/lumenbus/lumenbus/log/Batch" "timestamps" "[J" .null) (F_bytes : Fld Z h0 a1 "com/example/lumenbus/lumenbus/log/Batch" "bytes" "J" (.long (0 : Int64))) (g_a1 : n0 ≤ a1) (S0 : Sta Z Z.heap "java/util/ArrayList" "DEFAULTCAPACITY_EMPTY_ELEMENTDATA" "[Ljava/lang/Object;" (.ref w)) (O0 : Old Z n0 h0) :
    MetFree l (⟨"com/example/lumenbus/lumenbus/log/Batch", "<init>", "()V"⟩ : MethodName) (head1 (Jvm.Cond.code (⟨"com/example/lumenbus/lumenbus/log/Batch", "<init>", "()V"⟩ : MethodName) prog_31_method_1_code 1 none :: ws) ({ frames := 4, cells := 2, slots := 19, locals := 50 } : Room)) (fun a U => a = #[(.ref a1)] ∧ Z.Warmed39 U.vm ∧ U.heap = h0) (fun _ _ _ _ _ => True) (fun _ U o U' => ∃ v L, o = .returned v ∧ Qbinit Z a1 w kw h0 n0 v U'.heap L ∧ FrameEnd U o U' L ({ frames := 4, cells := 2, slots := 19, locals := 50 } : Room).cells ({ frames := 4, cells := 2, slots := 19, locals := 50 } : Room).slots) := by
  refine MetFree.of_bodySF (plainFor_of_name pn_1) hisR ?_
  intro p e s m args below meth c s₁ Bd hml0 hP hK
  obtain ⟨rfl, hZ, hh⟩ := hP
  have hx := Bd.exec
  have hby := Bd.bytes
  have hml : c.maxLocals = 1 := hml0
  have hown : s.vm.findClass "com/example/lumenbus/lumenbus/log/Batch" = some m.cls := findClass_of_methodNamed Bd.named
  have hnm := (name_of_methodNamed Bd.named Bd.method).1
  have X0 : Stand p l e ({ frames := 4, cells := 2, slots := 19, locals := 50 } : Room) s m #[(.ref a1)] below meth c s₁ [] 0 0 := Stand.of_body Bd
  have e0 : s₁.heap = h0 := by rw [← hh, Bd.state]; rfl
  have N0 := Fr.nil n0
  have k0 : ∀ t, Steps p.tables e below (s₁.setTop (mkF m 0 #[.val (.ref a1)] [])) t → Steps p.tables e below (s₁.setTop (entryFrame m #[(.ref a1)] 1)) t := fun t k => castTop (ef_binit m a1) k
  obtain ⟨T1, X1, e1, st1⟩ := initO X0 hx hZ hown (hw _ (List.mem_of_getElem? (i := 8) rfl)) (hw _ (List.mem_of_getElem? (i := 9) rfl)) (hw _ (List.mem_of_getElem? (i := 10) rfl)) e0 (g := (mkF m 1 #[.val (.ref a1)] [(.ref a1)])) rfl (by rw [hml]; rfl) rfl (hb hby d1_1) (by decide) (W := 0) (by show 2 * 0 + _ ≤ _; exact Nat.le_of_eq rfl) (by decide)
  obtain ⟨T2, h2, X2, e2, Ex2, A2, D2, -, st2⟩ := newO X1 hx hZ hown (hw _ (List.mem_of_getElem? (i := 11) rfl)) (hw _ (List.mem_of_getElem? (i := 12) rfl)) (hw _ (List.mem_of_getElem? (i := 13) rfl)) e1 (g := (mkF m 5 #[.val (.ref a1)] [(.ref a1)])) rfl (hb hby d1_5) (by decide) (by decide)
  obtain ⟨b2, g2⟩ : ∃ z, z = h0.size := ⟨_, rfl⟩
  rw [← g2] at A2 D2 st2
  have sz_b2 : h0.size ≤ b2 := Nat.le_trans (Keep.refl h0 [a1]).1 (Nat.le_of_eq g2.symm)
  have g_b2 : n0 ≤ b2 := Nat.le_trans Z0 sz_b2
  have ne3 : a1 ≠ b2 := Nat.ne_of_lt (Nat.lt_of_lt_of_le E_a1.lt (Nat.le_of_eq g2.symm))
  have E4 : Exa Z h2 a1 "com/example/lumenbus/lumenbus/log/Batch" := E_a1.ext Ex2
  have F5 : Fld Z h2 a1 "com/example/lumenbus/lumenbus/log/Batch" "payloads" "Ljava/util/List;" .null := F_payloads.ext Ex2
  have F6 : Fld Z h2 a1 "com/example/lumenbus/lumenbus/log/Batch" "timestamps" "[J" .null := F_timestamps.ext Ex2
  have F7 : Fld Z h2 a1 "com/example/lumenbus/lumenbus/log/Batch" "bytes" "J" (.long (0 : Int64)) := F_bytes.ext Ex2
  have O8 : Old Z n0 h2 := O0.ext Ex2
  have E9 : Exa Z h2 b2 "java/util/ArrayList" := A2
  have F10 : Fld Z h2 b2 "java/util/AbstractList" "modCount" "I" (.int (0 : Int32)) := D2 (Or.inl (hw _ (List.mem_of_getElem? (i := 31) rfl))) (ty := .int) (by decide)
  have F11 : Fld Z h2 b2 "java/util/ArrayList" "elementData" "[Ljava/lang/Object;" .null := D2 (Or.inl (hw _ (List.mem_of_getElem? (i := 34) rfl))) (ty := (.array (.object "java/lang/Object"))) (by decide)
  have F12 : Fld Z h2 b2 "java/util/ArrayList" "size" "I" (.int (0 : Int32)) := D2 (Or.inl (hw _ (List.mem_of_getElem? (i := 60) rfl))) (ty := .int) (by decide)
  have K13 : Keep h0 h2 [a1] := (Keep.refl h0 [a1]).ext Ex2
  obtain ⟨_, _, ⟨T14, L14, kk14, n14⟩, -, X14, ⟨Lc14, hQ14, l14, y14, z14⟩, st14⟩ := X2.specialBack hx (y := (⟨"java/util/ArrayList", "<init>", "()V"⟩ : MethodName)) rfl hown (mvT hZ (hw _ (List.mem_of_getElem? (i := 14) rfl))) (mvT hZ (hw _ (List.mem_of_getElem? (i := 15) rfl))) (mvT hZ (hw _ (List.mem_of_getElem? (i := 16) rfl))) (by decide) (backOf (W := 2) (rm_arl l Z a0 hw [] b2 w kw h2 n0 (Nat.le_trans Z0 K13.1) ⟨E9, F11, F12, F10⟩ g_b2 S0 O8) hZ (hw _ (List.mem_of_getElem? (i := 16) rfl)) (hw _ (List.mem_of_getElem? (i := 13) rfl)) (by decide) (by decide)) (g := (mkF m 9 #[.val (.ref a1)] [(.ref b2), (.ref b2), (.ref a1)])) rfl (by rw [hml]; rfl) (Steps.refl _) (a := b2) (argsL := []) (rest := [(.ref b2), (.ref a1)]) (lenOf pd___V rfl) rfl (by show 2 * 0 + _ ≤ _; exact Nat.le_of_eq rfl) (hb hby d1_9) (fun _ _ => ⟨rfl, e2, (by decide : 1 + 0 ≤ _), (by decide : 3 + 0 ≤ _)⟩)
  dsimp only [Pt.U, Pt.locs, Pt.cells, Pt.slots] at X14 l14 y14 z14 st14 hQ14
  subst l14 y14 z14
  obtain ⟨rfl, N14q, Kr, Sr⟩ := hQ14
  have N14 := Fr.app N0 N14q
  have K15 : Keep h0 T14.heap [a1] := K13.trans Kr (allS (Or.inr sz_b2) all0)
  have E16 : Exa Z T14.heap a1 "com/example/lumenbus/lumenbus/log/Batch" := E4.keep Kr
  have F17 : Fld Z T14.heap a1 "com/example/lumenbus/lumenbus/log/Batch" "payloads" "Ljava/util/List;" .null := F5.keep Kr (ninS ne3 nin0)
  have F18 : Fld Z T14.heap a1 "com/example/lumenbus/lumenbus/log/Batch" "timestamps" "[J" .null := F6.keep Kr (ninS ne3 nin0)
  have F19 : Fld Z T14.heap a1 "com/example/lumenbus/lumenbus/log/Batch" "bytes" "J" (.long (0 : Int64)) := F7.keep Kr (ninS ne3 nin0)
  have O20 : Old Z n0 T14.heap := O8.keep Kr (allS g_b2 all0)
  have E21 : Exa Z T14.heap b2 "java/util/ArrayList" := E9.keep Kr
  obtain ⟨E22, F22a, F22b, F22c⟩ := Sr
  obtain ⟨T23, h23, X23, e23, W23, st23⟩ := putF X14 hx hZ hown (host := "") (Or.inl (hw _ (List.mem_of_getElem? (i := 35) rfl))) Via.refl rfl F17 E16 (Or.inr ⟨(hw _ (List.mem_of_getElem? (i := 36) rfl)), rfl, hnm⟩) (hw _ (List.mem_of_getElem? (i := 3) rfl)) (ty := (.object "java/util/List")) (by decide) rfl rfl (g := (mkF m 12 #[.val (.ref a1)] [(.ref b2), (.ref a1)])) rfl rfl (hb hby d1_12)
  have N23 := Fr.snoc X23 N14 g_a1
  have F24 : Fld Z h23 a1 "com/example/lumenbus/lumenbus/log/Batch" "payloads" "Ljava/util/List;" (.ref b2) := F17.same W23
  have E25 : Exa Z h23 a1 "com/example/lumenbus/lumenbus/log/Batch" := E16.wr W23
  have F26 : Fld Z h23 a1 "com/example/lumenbus/lumenbus/log/Batch" "timestamps" "[J" .null := F18.other W23 (Or.inr (slot_ne (Or.inl (hw _ (List.mem_of_getElem? (i := 39) rfl))) (Or.inr (hw _ (List.mem_of_getElem? (i := 36) rfl))) (by decide) (t := (.array .long)) (t' := (.object "java/util/List")) (by decide) (by decide)))
  have F27 : Fld Z h23 a1 "com/example/lumenbus/lumenbus/log/Batch" "bytes" "J" (.long (0 : Int64)) := F19.other W23 (Or.inr (slot_ne (Or.inl (hw _ (List.mem_of_getElem? (i := 94) rfl))) (Or.inr (hw _ (List.mem_of_getElem? (i := 36) rfl))) (by decide) (t := .long) (t' := (.object "java/util/List")) (by decide) (by decide)))
  have O28 : Old Z n0 h23 := O20.wr W23 g_a1
  have E29 : Exa Z h23 b2 "java/util/ArrayList" := E22.wr W23
  have F30 : Fld Z h23 b2 "java/util/ArrayList" "elementData" "[Ljava/lang/Object;" (.ref w) := F22a.other W23 (Or.inl (Ne.symm ne3))
  have F31 : Fld Z h23 b2 "java/util/ArrayList" "size" "I" (.int (0 : Int32)) := F22b.other W23 (Or.inl (Ne.symm ne3))
  have F32 : Fld Z h23 b2 "java/util/AbstractList" "modCount" "I" (.int (0 : Int32)) := F22c.other W23 (Or.inl (Ne.symm ne3))
  have K33 : Keep h0 h23 [a1] := K15.wr W23 (Or.inl (List.mem_of_getElem? (i := 0) rfl))
  obtain ⟨T34, h34, kc34, X34, e34, Ex34, A34, st34⟩ := newP X23 hx hZ (hw _ (List.mem_of_getElem? (i := 37) rfl)) e23 (g := (mkF m 18 #[.val (.ref a1)] [(.int (16 : Int32)), (.ref a1)])) rfl (hb hby d1_18) rfl (by decide) (cap := 16) (by decide) (by decide) (by decide) (by decide)
  obtain ⟨b34, g34⟩ : ∃ z, z = h23.size := ⟨_, rfl⟩
  rw [← g34] at A34 st34
  have sz_b34 : h0.size ≤ b34 := Nat.le_trans K33.1 (Nat.le_of_eq g34.symm)
  have g_b34 : n0 ≤ b34 := Nat.le_trans Z0 sz_b34
  have ne35 : a1 ≠ b34 := Nat.ne_of_lt (Nat.lt_of_lt_of_le E25.lt (Nat.le_of_eq g34.symm))
  have ne36 : b2 ≠ b34 := Nat.ne_of_lt (Nat.lt_of_lt_of_le E29.lt (Nat.le_of_eq g34.symm))
  have E37 : Exa Z h34 a1 "com/example/lumenbus/lumenbus/log/Batch" := E25.ext Ex34
  have F38 : Fld Z h34 a1 "com/example/lumenbus/lumenbus/log/Batch" "payloads" "Ljava/util/List;" (.ref b2) := F24.ext Ex34
  have F39 : Fld Z h34 a1 "com/example/lumenbus/lumenbus/log/Batch" "timestamps" "[J" .null := F26.ext Ex34
  have F40 : Fld Z h34 a1 "com/example/lumenbus/lumenbus/log/Batch" "bytes" "J" (.long (0 : Int64)) := F27.ext Ex34
  have O41 : Old Z n0 h34 := O28.ext Ex34
  have E42 : Exa Z h34 b2 "java/util/ArrayList" := E29.ext Ex34
  have F43 : Fld Z h34 b2 "java/util/ArrayList" "elementData" "[Ljava/lang/Object;" (.ref w) := F30.ext Ex34
  have F44 : Fld Z h34 b2 "java/util/ArrayList" "size" "I" (.int (0 : Int32)) := F31.ext Ex34
  have F45 : Fld Z h34 b2 "java/util/AbstractList" "modCount" "I" (.int (0 : Int32)) := F32.ext Ex34
  have V46 : Arv Z h34 b34 kc34 .long (16 : Int32) [] (defaultValue .long) := Arv.new A34 (by decide)
  have K47 : Keep h0 h34 [a1] := K33.ext Ex34
  have V48 : Arv Z h34 b34 kc34 .long (16 : Int32) (([0, 0, 0, 0, 0, 0, 0, 0, 0, 0, 0, 0, 0, 0, 0, 0] : List Int64).map Value.long) (.long 0) := V46.pad (pad_rep [] _ 16)
  obtain ⟨T49, h49, X49, e49, W49, st49⟩ := putF X34 hx hZ hown (host := "") (Or.inl (hw _ (List.mem_of_getElem? (i := 38) rfl))) Via.refl e34 F39 E37 (Or.inl (hw _ (List.mem_of_getElem? (i := 39) rfl))) (hw _ (List.mem_of_getElem? (i := 3) rfl)) (ty := (.array .long)) (by decide) rfl rfl (g := (mkF m 20 #[.val (.ref a1)] [(.ref b34), (.ref a1)])) rfl rfl (hb hby d1_20)
  have N49 := Fr.snoc X49 N23 g_a1
  have F50 : Fld Z h49 a1 "com/example/lumenbus/lumenbus/log/Batch" "timestamps" "[J" (.ref b34) := F39.same W49
  have E51 : Exa Z h49 a1 "com/example/lumenbus/lumenbus/log/Batch" := E37.wr W49
  have F52 : Fld Z h49 a1 "com/example/lumenbus/lumenbus/log/Batch" "payloads" "Ljava/util/List;" (.ref b2) := F38.other W49 (Or.inr (slot_ne (Or.inr (hw _ (List.mem_of_getElem? (i := 36) rfl))) (Or.inl (hw _ (List.mem_of_getElem? (i := 39) rfl))) (by decide) (t := (.object "java/util/List")) (t' := (.array .long)) (by decide) (by decide)))
  have F53 : Fld Z h49 a1 "com/example/lumenbus/lumenbus/log/Batch" "bytes" "J" (.long (0 : Int64)) := F40.other W49 (Or.inr (slot_ne (Or.inl (hw _ (List.mem_of_getElem? (i := 94) rfl))) (Or.inl (hw _ (List.mem_of_getElem? (i := 39) rfl))) (by decide) (t := .long) (t' := (.array .long)) (by decide) (by decide)))
  have O54 : Old Z n0 h49 := O41.wr W49 g_a1
  have E55 : Exa Z h49 b2 "java/util/ArrayList" := E42.wr W49
  have F56 : Fld Z h49 b2 "java/util/ArrayList" "elementData" "[Ljava/lang/Object;" (.ref w) := F43.other W49 (Or.inl (Ne.symm ne3))
  have F57 : Fld Z h49 b2 "java/util/ArrayList" "size" "I" (.int (0 : Int32)) := F44.other W49 (Or.inl (Ne.symm ne3))
  have F58 : Fld Z h49 b2 "java/util/AbstractList" "modCount" "I" (.int (0 : Int32)) := F45.other W49 (Or.inl (Ne.symm ne3))
  have V59 : Arv Z h49 b34 kc34 .long (16 : Int32) (([0, 0, 0, 0, 0, 0, 0, 0, 0, 0, 0, 0, 0, 0, 0, 0] : List Int64).map Value.long) (.long 0) := V48.other W49 (Ne.symm ne35)
  have K60 : Keep h0 h49 [a1] := K47.wr W49 (Or.inl (List.mem_of_getElem? (i := 0) rfl))
  have k62 : ∀ t, Steps p.tables e below (T49.setTop (mkF m 23 #[.val (.ref a1)] [])) t → Steps p.tables e below (s₁.setTop (entryFrame m #[(.ref a1)] 1)) t := fun t k => k0 t (by
    show Steps p.tables e below (s₁.setTop (mkF m 0 #[.val (.ref a1)] [])) _
    refine XS.aloadN X0.here hx rfl (hb hby d1_0) rfl rfl ?_
    show Steps p.tables e below (s₁.setTop (mkF m 1 #[.val (.ref a1)] [(.ref a1)])) _
    refine st1 _ ?_
    show Steps p.tables e below (T1.setTop (mkF m 4 #[.val (.ref a1)] [])) _
    refine XS.aloadN X1.here hx rfl (hb hby d1_4) rfl rfl ?_
    show Steps p.tables e below (T1.setTop (mkF m 5 #[.val (.ref a1)] [(.ref a1)])) _
    refine st2 _ ?_
    show Steps p.tables e below (T2.setTop (mkF m 8 #[.val (.ref a1)] [(.ref b2), (.ref a1)])) _
    refine XS.dup X2.here hx rfl (hb hby d1_8) rfl rfl ?_
    show Steps p.tables e below (T2.setTop (mkF m 9 #[.val (.ref a1)] [(.ref b2), (.ref b2), (.ref a1)])) _
    refine st14.trans ?_
    show Steps p.tables e below (T14.setTop (mkF m 12 #[.val (.ref a1)] [(.ref b2), (.ref a1)])) _
    refine st23 _ ?_
    show Steps p.tables e below (T23.setTop (mkF m 15 #[.val (.ref a1)] [])) _
    refine XS.aloadN X23.here hx rfl (hb hby d1_15) rfl rfl ?_
    show Steps p.tables e below (T23.setTop (mkF m 16 #[.val (.ref a1)] [(.ref a1)])) _
    refine XS.bipush X23.here hx rfl (hb hby d1_16) ?_
    show Steps p.tables e below (T23.setTop (mkF m 18 #[.val (.ref a1)] [(.int (16 : Int32)), (.ref a1)])) _
    refine st34 _ ?_
    show Steps p.tables e below (T34.setTop (mkF m 20 #[.val (.ref a1)] [(.ref b34), (.ref a1)])) _
    refine st49 _ ?_
    exact k)
  obtain ⟨fs, hr, hrun, hended, hW, hsame⟩ := X49.leave (v := none) (fun _ => rfl) (BodyLoose.notSynchronized Bd)
  refine ⟨_, _, k62 _ ?_, hrun, hended, _, _, rfl, ?_, ⟨_, rfl⟩, hW, hsame.mono (by decide) (by decide)⟩
  · show Steps p.tables e below (T49.setTop (mkF m 23 #[.val (.ref a1)] [])) _
    exact X49.returnOut hx Bd.returns (hb hby d1_23) hr
  ·
    show Qbinit _ a1 w kw h0 n0 _ T49.heap _
    rw [e49]
    exact ⟨rfl, N49, K60, b2, b34, kc34, ⟨sz_b2, sz_b34, ne36⟩, ⟨E51, F52, F50, F53, V59⟩, ⟨E55, F56, F57, F58⟩⟩
theorem own_pos (x : Int64) : ¬ (x &&& (9223372036854775807 : Int64)) < (0 : Int64) := by
  have h := c_maskL x 9223372036854775807 63 (by decide) (by decide)
  have z : (0 : Int64).toInt = 0 := by decide
  rw [Int64.lt_iff_toInt_lt, h, z]; omega
theorem own_len3 (x : Int32) : ¬ (x &&& (3 : Int32)) < 0 ∧ (x &&& (3 : Int32)).toNatClampNeg ≤ 3 := by
  have h := c_mask x 3 2 (by decide) (by decide)
  have z : (0 : Int32).toInt = 0 := by decide
  have h0 : ¬ (x &&& (3 : Int32)) < 0 := by rw [Int32.lt_iff_toInt_lt, z]; omega
  have h1 := nat_of h0
  exact ⟨h0, by omega⟩
theorem own_stamp {b : Int32} {u q e : Int64} {TS : List Int64} {i : Int32} {n : Nat} (hi : i.toNatClampNeg = n) (hu : ¬ u < (0 : Int64)) (he : e = if b = (0 : Int32) then (-1 : Int64) else u) (hT : TS.getD n 0 = e) : own_ts TS i q = if b = (0 : Int32) then q else u := by
  unfold own_ts; rw [hi, hT, he]
  by_cases h : b = (0 : Int32)
  · simp only [if_pos h]; rfl
  · simp only [if_neg h]
    refine if_neg fun e => hu ?_
    rw [e]; decide
theorem pd___B_V : parseMethodDescriptor "([B)V" = some ⟨[(.array .byte)], none⟩ := by decide +kernel
theorem pd__IJ_J : parseMethodDescriptor "(IJ)J" = some ⟨[.int, .long], some .long⟩ := by decide +kernel
theorem pn_0 : plainName "com/example/lumenbus/lumenbus/log/BatchTimestampPinLaw" = true := by first | (simp [plainName, overriddenIn]; done) | decide +kernel
theorem ef_law (m : MethodId) (x0 : Int32) (x1 : Int64) (x2 : Int64) (x3 : Int64) (x4 : Int64) : entryFrame m #[(.int x0), (.long x1), (.long x2), (.long x3), (.long x4)] maxLocals = mkF m 0 #[.val (.int x0), .val (.long x1), .second, .val (.long x2), .second, .val (.long x3), .second, .val (.long x4), .second, .unset, .unset, .unset, .unset, .unset, .unset, .unset, .unset, .unset, .unset, .unset, .unset, .unset, .unset, .unset, .unset, .unset, .unset, .unset, .unset, .unset, .unset, .unset, .unset, .unset] [] := by first | (simp [entryFrame, mkF, argsToLocals, Value.category, maxLocals]; done) | rfl
def Qlaw (Z : State) (p1 : Int32) (q2 : Int64) (q3 : Int64) (q4 : Int64) (q5 : Int64) (w : Addr) (kw : ClassId) (h0 : Heap) (n0 : Nat) (v : Option Value) (h : Heap) (L : List Loc) : Prop := v = some (.int (1 : Int32)) ∧ Fr n0 L
set_option maxRecDepth 65536 in
set_option maxHeartbeats 40000000 in
theorem rm_law (l : Launch) (Z : State) (a0 : Array Value) (hw : ∀ d ∈ tables_1, d.before a0 Z = true) (ws : List Jvm.Cond) (p1 : Int32) (q2 : Int64) (q3 : Int64) (q4 : Int64) (q5 : Int64) (w : Addr) (kw : ClassId) (h0 : Heap) (n0 : Nat) (Z0 : n0 ≤ h0.size) (S0 : Sta Z Z.heap "java/util/ArrayList" "DEFAULTCAPACITY_EMPTY_ELEMENTDATA" "[Ljava/lang/Object;" (.ref w)) (A0 : Arv Z Z.heap w kw (.object "java/lang/Object") 0 [] .null) (O0 : Old Z n0 h0) :
    MetFree l x (head1 (Jvm.Cond.code x code maxLocals ret :: ws) room_1) (fun a U => a = #[(.int p1), (.long q2), (.long q3), (.long q4), (.long q5)] ∧ Z.Warmed39 U.vm ∧ U.heap = h0) (fun _ _ _ _ _ => True) (fun _ U o U' => ∃ v L, o = .returned v ∧ Qlaw Z p1 q2 q3 q4 q5 w kw h0 n0 v U'.heap L ∧ FrameEnd U o U' L room_1.cells room_1.slots) := by
  refine MetFree.of_bodySF (plainFor_of_name pn_0) hisR ?_
  intro p e s m args below meth c s₁ Bd hml0 hP hK
  obtain ⟨rfl, hZ, hh⟩ := hP
  have hx := Bd.exec
  have hby := Bd.bytes
  have hml : c.maxLocals = 34 := hml0
  have hown : s.vm.findClass "com/example/lumenbus/lumenbus/log/BatchTimestampPinLaw" = some m.cls := findClass_of_methodNamed Bd.named
  have hnm := (name_of_methodNamed Bd.named Bd.method).1
  have X0 : Stand p l e room_1 s m #[(.int p1), (.long q2), (.long q3), (.long q4), (.long q5)] below meth c s₁ [] 0 0 := Stand.of_body Bd
  have e0 : s₁.heap = h0 := by rw [← hh, Bd.state]; rfl
  have N0 := Fr.nil n0
  have k0 : ∀ t, Steps p.tables e below (s₁.setTop (mkF m 0 #[.val (.int p1), .val (.long q2), .second, .val (.long q3), .second, .val (.long q4), .second, .val (.long q5), .second, .unset, .unset, .unset, .unset, .unset, .unset, .unset, .unset, .unset, .unset, .unset, .unset, .unset, .unset, .unset, .unset, .unset, .unset, .unset, .unset, .unset, .unset, .unset, .unset, .unset] [])) t → Steps p.tables e below (s₁.setTop (entryFrame m #[(.int p1), (.long q2), (.long q3), (.long q4), (.long q5)] maxLocals)) t := fun t k => castTop (ef_law m p1 q2 q3 q4 q5) k
  obtain ⟨f0, hd_f0⟩ : ∃ z : Int32, z = (if (p1 &&& (1 : Int32)) = (0 : Int32) then (0 : Int32) else (1 : Int32)) := ⟨_, rfl⟩
  have k1 : ∀ t, Steps p.tables e below (s₁.setTop (mkF m 13 #[.val (.int p1), .val (.long q2), .second, .val (.long q3), .second, .val (.long q4), .second, .val (.long q5), .second, .val (.int f0), .unset, .unset, .unset, .unset, .unset, .unset, .unset, .unset, .unset, .unset, .unset, .unset, .unset, .unset, .unset, .unset, .unset, .unset, .unset, .unset, .unset, .unset, .unset, .unset] [])) t → Steps p.tables e below (s₁.setTop (entryFrame m #[(.int p1), (.long q2), (.long q3), (.long q4), (.long q5)] maxLocals)) t := fun t k => k0 t (by
    show Steps p.tables e below (s₁.setTop (mkF m 0 #[.val (.int p1), .val (.long q2), .second, .val (.long q3), .second, .val (.long q4), .second, .val (.long q5), .second, .unset, .unset, .unset, .unset, .unset, .unset, .unset, .unset, .unset, .unset, .unset, .unset, .unset, .unset, .unset, .unset, .unset, .unset, .unset, .unset, .unset, .unset, .unset, .unset, .unset] [])) _
    refine XS.iloadN X0.here hx rfl (hb hby at_0) rfl ?_
    show Steps p.tables e below (s₁.setTop (mkF m 1 #[.val (.int p1), .val (.long q2), .second, .val (.long q3), .second, .val (.long q4), .second, .val (.long q5), .second, .unset, .unset, .unset, .unset, .unset, .unset, .unset, .unset, .unset, .unset, .unset, .unset, .unset, .unset, .unset, .unset, .unset, .unset, .unset, .unset, .unset, .unset, .unset, .unset, .unset] [(.int p1)])) _
    refine XS.iconst X0.here hx rfl (hb hby at_1) ?_
    show Steps p.tables e below (s₁.setTop (mkF m 2 #[.val (.int p1), .val (.long q2), .second, .val (.long q3), .second, .val (.long q4), .second, .val (.long q5), .second, .unset, .unset, .unset, .unset, .unset, .unset, .unset, .unset, .unset, .unset, .unset, .unset, .unset, .unset, .unset, .unset, .unset, .unset, .unset, .unset, .unset, .unset, .unset, .unset, .unset] [(.int (1 : Int32)), (.int p1)])) _
    refine XS.iand X0.here hx rfl (hb hby at_2) rfl ?_
    by_cases c3 : (p1 &&& (1 : Int32)) = (0 : Int32)
    ·
      show Steps p.tables e below (s₁.setTop (mkF m 3 #[.val (.int p1), .val (.long q2), .second, .val (.long q3), .second, .val (.long q4), .second, .val (.long q5), .second, .unset, .unset, .unset, .unset, .unset, .unset, .unset, .unset, .unset, .unset, .unset, .unset, .unset, .unset, .unset, .unset, .unset, .unset, .unset, .unset, .unset, .unset, .unset, .unset, .unset] [(.int (p1 &&& (1 : Int32)))])) _
      refine XS.ifYes X0.here hx rfl (pc0 := 3) (pc' := 10) rfl (hb hby at_3) rfl ((if0 _ _).trans (teq c3).1) (by decide) (by decide) ?_
      show Steps p.tables e below (s₁.setTop (mkF m 10 #[.val (.int p1), .val (.long q2), .second, .val (.long q3), .second, .val (.long q4), .second, .val (.long q5), .second, .unset, .unset, .unset, .unset, .unset, .unset, .unset, .unset, .unset, .unset, .unset, .unset, .unset, .unset, .unset, .unset, .unset, .unset, .unset, .unset, .unset, .unset, .unset, .unset, .unset] [])) _
      refine XS.iconst X0.here hx rfl (hb hby at_10) ?_
      show Steps p.tables e below (s₁.setTop (mkF m 11 #[.val (.int p1), .val (.long q2), .second, .val (.long q3), .second, .val (.long q4), .second, .val (.long q5), .second, .unset, .unset, .unset, .unset, .unset, .unset, .unset, .unset, .unset, .unset, .unset, .unset, .unset, .unset, .unset, .unset, .unset, .unset, .unset, .unset, .unset, .unset, .unset, .unset, .unset] [(.int (0 : Int32))])) _
      refine XS.istore X0.here hx rfl (hb hby at_11) rfl (l' := #[.val (.int p1), .val (.long q2), .second, .val (.long q3), .second, .val (.long q4), .second, .val (.long q5), .second, .val (.int (0 : Int32)), .unset, .unset, .unset, .unset, .unset, .unset, .unset, .unset, .unset, .unset, .unset, .unset, .unset, .unset, .unset, .unset, .unset, .unset, .unset, .unset, .unset, .unset, .unset, .unset]) rfl ?_
      simp only [if_pos c3] at hd_f0
      rw [hd_f0] at k
      exact k
    ·
      show Steps p.tables e below (s₁.setTop (mkF m 3 #[.val (.int p1), .val (.long q2), .second, .val (.long q3), .second, .val (.long q4), .second, .val (.long q5), .second, .unset, .unset, .unset, .unset, .unset, .unset, .unset, .unset, .unset, .unset, .unset, .unset, .unset, .unset, .unset, .unset, .unset, .unset, .unset, .unset, .unset, .unset, .unset, .unset, .unset] [(.int (p1 &&& (1 : Int32)))])) _
      refine XS.ifNo X0.here hx rfl (hb hby at_3) rfl ((if0 _ _).trans (feq c3).1) ?_
      show Steps p.tables e below (s₁.setTop (mkF m 6 #[.val (.int p1), .val (.long q2), .second, .val (.long q3), .second, .val (.long q4), .second, .val (.long q5), .second, .unset, .unset, .unset, .unset, .unset, .unset, .unset, .unset, .unset, .unset, .unset, .unset, .unset, .unset, .unset, .unset, .unset, .unset, .unset, .unset, .unset, .unset, .unset, .unset, .unset] [])) _
      refine XS.iconst X0.here hx rfl (hb hby at_6) ?_
      show Steps p.tables e below (s₁.setTop (mkF m 7 #[.val (.int p1), .val (.long q2), .second, .val (.long q3), .second, .val (.long q4), .second, .val (.long q5), .second, .unset, .unset, .unset, .unset, .unset, .unset, .unset, .unset, .unset, .unset, .unset, .unset, .unset, .unset, .unset, .unset, .unset, .unset, .unset, .unset, .unset, .unset, .unset, .unset, .unset] [(.int (1 : Int32))])) _
      refine XS.goto X0.here hx rfl (pc0 := 7) (pc' := 11) rfl (hb hby at_7) (by decide) (by decide) ?_
      show Steps p.tables e below (s₁.setTop (mkF m 11 #[.val (.int p1), .val (.long q2), .second, .val (.long q3), .second, .val (.long q4), .second, .val (.long q5), .second, .unset, .unset, .unset, .unset, .unset, .unset, .unset, .unset, .unset, .unset, .unset, .unset, .unset, .unset, .unset, .unset, .unset, .unset, .unset, .unset, .unset, .unset, .unset, .unset, .unset] [(.int (1 : Int32))])) _
      refine XS.istore X0.here hx rfl (hb hby at_11) rfl (l' := #[.val (.int p1), .val (.long q2), .second, .val (.long q3), .second, .val (.long q4), .second, .val (.long q5), .second, .val (.int (1 : Int32)), .unset, .unset, .unset, .unset, .unset, .unset, .unset, .unset, .unset, .unset, .unset, .unset, .unset, .unset, .unset, .unset, .unset, .unset, .unset, .unset, .unset, .unset, .unset, .unset]) rfl ?_
      simp only [if_neg c3] at hd_f0
      rw [hd_f0] at k
      exact k)
  obtain ⟨f1, hd_f1⟩ : ∃ z : Int32, z = (if (p1 &&& (2 : Int32)) = (0 : Int32) then (0 : Int32) else (1 : Int32)) := ⟨_, rfl⟩
  have k2 : ∀ t, Steps p.tables e below (s₁.setTop (mkF m 26 #[.val (.int p1), .val (.long q2), .second, .val (.long q3), .second, .val (.long q4), .second, .val (.long q5), .second, .val (.int f0), .val (.int f1), .unset, .unset, .unset, .unset, .unset, .unset, .unset, .unset, .unset, .unset, .unset, .unset, .unset, .unset, .unset, .unset, .unset, .unset, .unset, .unset, .unset, .unset, .unset] [])) t → Steps p.tables e below (s₁.setTop (entryFrame m #[(.int p1), (.long q2), (.long q3), (.long q4), (.long q5)] maxLocals)) t := fun t k => k1 t (by
    show Steps p.tables e below (s₁.setTop (mkF m 13 #[.val (.int p1), .val (.long q2), .second, .val (.long q3), .second, .val (.long q4), .second, .val (.long q5), .second, .val (.int f0), .unset, .unset, .unset, .unset, .unset, .unset, .unset, .unset, .unset, .unset, .unset, .unset, .unset, .unset, .unset, .unset, .unset, .unset, .unset, .unset, .unset, .unset, .unset, .unset] [])) _
    refine XS.iloadN X0.here hx rfl (hb hby at_13) rfl ?_
    show Steps p.tables e below (s₁.setTop (mkF m 14 #[.val (.int p1), .val (.long q2), .second, .val (.long q3), .second, .val (.long q4), .second, .val (.long q5), .second, .val (.int f0), .unset, .unset, .unset, .unset, .unset, .unset, .unset, .unset, .unset, .unset, .unset, .unset, .unset, .unset, .unset, .unset, .unset, .unset, .unset, .unset, .unset, .unset, .unset, .unset] [(.int p1)])) _
    refine XS.iconst X0.here hx rfl (hb hby at_14) ?_
    show Steps p.tables e below (s₁.setTop (mkF m 15 #[.val (.int p1), .val (.long q2), .second, .val (.long q3), .second, .val (.long q4), .second, .val (.long q5), .second, .val (.int f0), .unset, .unset, .unset, .unset, .unset, .unset, .unset, .unset, .unset, .unset, .unset, .unset, .unset, .unset, .unset, .unset, .unset, .unset, .unset, .unset, .unset, .unset, .unset, .unset] [(.int (2 : Int32)), (.int p1)])) _
    refine XS.iand X0.here hx rfl (hb hby at_15) rfl ?_
    by_cases c16 : (p1 &&& (2 : Int32)) = (0 : Int32)
    ·
      show Steps p.tables e below (s₁.setTop (mkF m 16 #[.val (.int p1), .val (.long q2), .second, .val (.long q3), .second, .val (.long q4), .second, .val (.long q5), .second, .val (.int f0), .unset, .unset, .unset, .unset, .unset, .unset, .unset, .unset, .unset, .unset, .unset, .unset, .unset, .unset, .unset, .unset, .unset, .unset, .unset, .unset, .unset, .unset, .unset, .unset] [(.int (p1 &&& (2 : Int32)))])) _
      refine XS.ifYes X0.here hx rfl (pc0 := 16) (pc' := 23) rfl (hb hby at_16) rfl ((if0 _ _).trans (teq c16).1) (by decide) (by decide) ?_
      show Steps p.tables e below (s₁.setTop (mkF m 23 #[.val (.int p1), .val (.long q2), .second, .val (.long q3), .second, .val (.long q4), .second, .val (.long q5), .second, .val (.int f0), .unset, .unset, .unset, .unset, .unset, .unset, .unset, .unset, .unset, .unset, .unset, .unset, .unset, .unset, .unset, .unset, .unset, .unset, .unset, .unset, .unset, .unset, .unset, .unset] [])) _
      refine XS.iconst X0.here hx rfl (hb hby at_23) ?_
      show Steps p.tables e below (s₁.setTop (mkF m 24 #[.val (.int p1), .val (.long q2), .second, .val (.long q3), .second, .val (.long q4), .second, .val (.long q5), .second, .val (.int f0), .unset, .unset, .unset, .unset, .unset, .unset, .unset, .unset, .unset, .unset, .unset, .unset, .unset, .unset, .unset, .unset, .unset, .unset, .unset, .unset, .unset, .unset, .unset, .unset] [(.int (0 : Int32))])) _
      refine XS.istore X0.here hx rfl (hb hby at_24) rfl (l' := #[.val (.int p1), .val (.long q2), .second, .val (.long q3), .second, .val (.long q4), .second, .val (.long q5), .second, .val (.int f0), .val (.int (0 : Int32)), .unset, .unset, .unset, .unset, .unset, .unset, .unset, .unset, .unset, .unset, .unset, .unset, .unset, .unset, .unset, .unset, .unset, .unset, .unset, .unset, .unset, .unset, .unset]) rfl ?_
      simp only [if_pos c16] at hd_f1
      rw [hd_f1] at k
      exact k
    ·
      show Steps p.tables e below (s₁.setTop (mkF m 16 #[.val (.int p1), .val (.long q2), .second, .val (.long q3), .second, .val (.long q4), .second, .val (.long q5), .second, .val (.int f0), .unset, .unset, .unset, .unset, .unset, .unset, .unset, .unset, .unset, .unset, .unset, .unset, .unset, .unset, .unset, .unset, .unset, .unset, .unset, .unset, .unset, .unset, .unset, .unset] [(.int (p1 &&& (2 : Int32)))])) _
      refine XS.ifNo X0.here hx rfl (hb hby at_16) rfl ((if0 _ _).trans (feq c16).1) ?_
      show Steps p.tables e below (s₁.setTop (mkF m 19 #[.val (.int p1), .val (.long q2), .second, .val (.long q3), .second, .val (.long q4), .second, .val (.long q5), .second, .val (.int f0), .unset, .unset, .unset, .unset, .unset, .unset, .unset, .unset, .unset, .unset, .unset, .unset, .unset, .unset, .unset, .unset, .unset, .unset, .unset, .unset, .unset, .unset, .unset, .unset] [])) _
      refine XS.iconst X0.here hx rfl (hb hby at_19) ?_
      show Steps p.tables e below (s₁.setTop (mkF m 20 #[.val (.int p1), .val (.long q2), .second, .val (.long q3), .second, .val (.long q4), .second, .val (.long q5), .second, .val (.int f0), .unset, .unset, .unset, .unset, .unset, .unset, .unset, .unset, .unset, .unset, .unset, .unset, .unset, .unset, .unset, .unset, .unset, .unset, .unset, .unset, .unset, .unset, .unset, .unset] [(.int (1 : Int32))])) _
      refine XS.goto X0.here hx rfl (pc0 := 20) (pc' := 24) rfl (hb hby at_20) (by decide) (by decide) ?_
      show Steps p.tables e below (s₁.setTop (mkF m 24 #[.val (.int p1), .val (.long q2), .second, .val (.long q3), .second, .val (.long q4), .second, .val (.long q5), .second, .val (.int f0), .unset, .unset, .unset, .unset, .unset, .unset, .unset, .unset, .unset, .unset, .unset, .unset, .unset, .unset, .unset, .unset, .unset, .unset, .unset, .unset, .unset, .unset, .unset, .unset] [(.int (1 : Int32))])) _
      refine XS.istore X0.here hx rfl (hb hby at_24) rfl (l' := #[.val (.int p1), .val (.long q2), .second, .val (.long q3), .second, .val (.long q4), .second, .val (.long q5), .second, .val (.int f0), .val (.int (1 : Int32)), .unset, .unset, .unset, .unset, .unset, .unset, .unset, .unset, .unset, .unset, .unset, .unset, .unset, .unset, .unset, .unset, .unset, .unset, .unset, .unset, .unset, .unset, .unset]) rfl ?_
      simp only [if_neg c16] at hd_f1
      rw [hd_f1] at k
      exact k)
  obtain ⟨f2, hd_f2⟩ : ∃ z : Int32, z = (if (p1 &&& (4 : Int32)) = (0 : Int32) then (0 : Int32) else (1 : Int32)) := ⟨_, rfl⟩
  have k3 : ∀ t, Steps p.tables e below (s₁.setTop (mkF m 39 #[.val (.int p1), .val (.long q2), .second, .val (.long q3), .second, .val (.long q4), .second, .val (.long q5), .second, .val (.int f0), .val (.int f1), .val (.int f2), .unset, .unset, .unset, .unset, .unset, .unset, .unset, .unset, .unset, .unset, .unset, .unset, .unset, .unset, .unset, .unset, .unset, .unset, .unset, .unset, .unset, .unset] [])) t → Steps p.tables e below (s₁.setTop (entryFrame m #[(.int p1), (.long q2), (.long q3), (.long q4), (.long q5)] maxLocals)) t := fun t k => k2 t (by
    show Steps p.tables e below (s₁.setTop (mkF m 26 #[.val (.int p1), .val (.long q2), .second, .val (.long q3), .second, .val (.long q4), .second, .val (.long q5), .second, .val (.int f0), .val (.int f1), .unset, .unset, .unset, .unset, .unset, .unset, .unset, .unset, .unset, .unset, .unset, .unset, .unset, .unset, .unset, .unset, .unset, .unset, .unset, .unset, .unset, .unset, .unset] [])) _
    refine XS.iloadN X0.here hx rfl (hb hby at_26) rfl ?_
    show Steps p.tables e below (s₁.setTop (mkF m 27 #[.val (.int p1), .val (.long q2), .second, .val (.long q3), .second, .val (.long q4), .second, .val (.long q5), .second, .val (.int f0), .val (.int f1), .unset, .unset, .unset, .unset, .unset, .unset, .unset, .unset, .unset, .unset, .unset, .unset, .unset, .unset, .unset, .unset, .unset, .unset, .unset, .unset, .unset, .unset, .unset] [(.int p1)])) _
    refine XS.iconst X0.here hx rfl (hb hby at_27) ?_
    show Steps p.tables e below (s₁.setTop (mkF m 28 #[.val (.int p1), .val (.long q2), .second, .val (.long q3), .second, .val (.long q4), .second, .val (.long q5), .second, .val (.int f0), .val (.int f1), .unset, .unset, .unset, .unset, .unset, .unset, .unset, .unset, .unset, .unset, .unset, .unset, .unset, .unset, .unset, .unset, .unset, .unset, .unset, .unset, .unset, .unset, .unset] [(.int (4 : Int32)), (.int p1)])) _
    refine XS.iand X0.here hx rfl (hb hby at_28) rfl ?_
    by_cases c29 : (p1 &&& (4 : Int32)) = (0 : Int32)
    ·
      show Steps p.tables e below (s₁.setTop (mkF m 29 #[.val (.int p1), .val (.long q2), .second, .val (.long q3), .second, .val (.long q4), .second, .val (.long q5), .second, .val (.int f0), .val (.int f1), .unset, .unset, .unset, .unset, .unset, .unset, .unset, .unset, .unset, .unset, .unset, .unset, .unset, .unset, .unset, .unset, .unset, .unset, .unset, .unset, .unset, .unset, .unset] [(.int (p1 &&& (4 : Int32)))])) _
      refine XS.ifYes X0.here hx rfl (pc0 := 29) (pc' := 36) rfl (hb hby at_29) rfl ((if0 _ _).trans (teq c29).1) (by decide) (by decide) ?_
      show Steps p.tables e below (s₁.setTop (mkF m 36 #[.val (.int p1), .val (.long q2), .second, .val (.long q3), .second, .val (.long q4), .second, .val (.long q5), .second, .val (.int f0), .val (.int f1), .unset, .unset, .unset, .unset, .unset, .unset, .unset, .unset, .unset, .unset, .unset, .unset, .unset, .unset, .unset, .unset, .unset, .unset, .unset, .unset, .unset, .unset, .unset] [])) _
      refine XS.iconst X0.here hx rfl (hb hby at_36) ?_
      show Steps p.tables e below (s₁.setTop (mkF m 37 #[.val (.int p1), .val (.long q2), .second, .val (.long q3), .second, .val (.long q4), .second, .val (.long q5), .second, .val (.int f0), .val (.int f1), .unset, .unset, .unset, .unset, .unset, .unset, .unset, .unset, .unset, .unset, .unset, .unset, .unset, .unset, .unset, .unset, .unset, .unset, .unset, .unset, .unset, .unset, .unset] [(.int (0 : Int32))])) _
      refine XS.istore X0.here hx rfl (hb hby at_37) rfl (l' := #[.val (.int p1), .val (.long q2), .second, .val (.long q3), .second, .val (.long q4), .second, .val (.long q5), .second, .val (.int f0), .val (.int f1), .val (.int (0 : Int32)), .unset, .unset, .unset, .unset, .unset, .unset, .unset, .unset, .unset, .unset, .unset, .unset, .unset, .unset, .unset, .unset, .unset, .unset, .unset, .unset, .unset, .unset]) rfl ?_
      simp only [if_pos c29] at hd_f2
      rw [hd_f2] at k
      exact k
    ·
      show Steps p.tables e below (s₁.setTop (mkF m 29 #[.val (.int p1), .val (.long q2), .second, .val (.long q3), .second, .val (.long q4), .second, .val (.long q5), .second, .val (.int f0), .val (.int f1), .unset, .unset, .unset, .unset, .unset, .unset, .unset, .unset, .unset, .unset, .unset, .unset, .unset, .unset, .unset, .unset, .unset, .unset, .unset, .unset, .unset, .unset, .unset] [(.int (p1 &&& (4 : Int32)))])) _
      refine XS.ifNo X0.here hx rfl (hb hby at_29) rfl ((if0 _ _).trans (feq c29).1) ?_
      show Steps p.tables e below (s₁.setTop (mkF m 32 #[.val (.int p1), .val (.long q2), .second, .val (.long q3), .second, .val (.long q4), .second, .val (.long q5), .second, .val (.int f0), .val (.int f1), .unset, .unset, .unset, .unset, .unset, .unset, .unset, .unset, .unset, .unset, .unset, .unset, .unset, .unset, .unset, .unset, .unset, .unset, .unset, .unset, .unset, .unset, .unset] [])) _
      refine XS.iconst X0.here hx rfl (hb hby at_32) ?_
      show Steps p.tables e below (s₁.setTop (mkF m 33 #[.val (.int p1), .val (.long q2), .second, .val (.long q3), .second, .val (.long q4), .second, .val (.long q5), .second, .val (.int f0), .val (.int f1), .unset, .unset, .unset, .unset, .unset, .unset, .unset, .unset, .unset, .unset, .unset, .unset, .unset, .unset, .unset, .unset, .unset, .unset, .unset, .unset, .unset, .unset, .unset] [(.int (1 : Int32))])) _
      refine XS.goto X0.here hx rfl (pc0 := 33) (pc' := 37) rfl (hb hby at_33) (by decide) (by decide) ?_
      show Steps p.tables e below (s₁.setTop (mkF m 37 #[.val (.int p1), .val (.long q2), .second, .val (.long q3), .second, .val (.long q4), .second, .val (.long q5), .second, .val (.int f0), .val (.int f1), .unset, .unset, .unset, .unset, .unset, .unset, .unset, .unset, .unset, .unset, .unset, .unset, .unset, .unset, .unset, .unset, .unset, .unset, .unset, .unset, .unset, .unset, .unset] [(.int (1 : Int32))])) _
      refine XS.istore X0.here hx rfl (hb hby at_37) rfl (l' := #[.val (.int p1), .val (.long q2), .second, .val (.long q3), .second, .val (.long q4), .second, .val (.long q5), .second, .val (.int f0), .val (.int f1), .val (.int (1 : Int32)), .unset, .unset, .unset, .unset, .unset, .unset, .unset, .unset, .unset, .unset, .unset, .unset, .unset, .unset, .unset, .unset, .unset, .unset, .unset, .unset, .unset, .unset]) rfl ?_
      simp only [if_neg c29] at hd_f2
      rw [hd_f2] at k
      exact k)
  have k4 : ∀ t, Steps p.tables e below (s₁.setTop (mkF m 46 #[.val (.int p1), .val (.long q2), .second, .val (.long q3), .second, .val (.long q4), .second, .val (.long q5), .second, .val (.int f0), .val (.int f1), .val (.int f2), .val (.long (q2 &&& (9223372036854775807 : Int64))), .second, .unset, .unset, .unset, .unset, .unset, .unset, .unset, .unset, .unset, .unset, .unset, .unset, .unset, .unset, .unset, .unset, .unset, .unset, .unset, .unset] [])) t → Steps p.tables e below (s₁.setTop (entryFrame m #[(.int p1), (.long q2), (.long q3), (.long q4), (.long q5)] maxLocals)) t := fun t k => k3 t (by
    show Steps p.tables e below (s₁.setTop (mkF m 39 #[.val (.int p1), .val (.long q2), .second, .val (.long q3), .second, .val (.long q4), .second, .val (.long q5), .second, .val (.int f0), .val (.int f1), .val (.int f2), .unset, .unset, .unset, .unset, .unset, .unset, .unset, .unset, .unset, .unset, .unset, .unset, .unset, .unset, .unset, .unset, .unset, .unset, .unset, .unset, .unset, .unset] [])) _
    refine XS.lloadN X0.here hx rfl (hb hby at_39) rfl ?_
    show Steps p.tables e below (s₁.setTop (mkF m 40 #[.val (.int p1), .val (.long q2), .second, .val (.long q3), .second, .val (.long q4), .second, .val (.long q5), .second, .val (.int f0), .val (.int f1), .val (.int f2), .unset, .unset, .unset, .unset, .unset, .unset, .unset, .unset, .unset, .unset, .unset, .unset, .unset, .unset, .unset, .unset, .unset, .unset, .unset, .unset, .unset, .unset] [(.long q2)])) _
    refine X0.ldc2Long hx hown (mvT hZ (hw _ (List.mem_of_getElem? (i := 0) rfl))) (g := (mkF m 40 #[.val (.int p1), .val (.long q2), .second, .val (.long q3), .second, .val (.long q4), .second, .val (.long q5), .second, .val (.int f0), .val (.int f1), .val (.int f2), .unset, .unset, .unset, .unset, .unset, .unset, .unset, .unset, .unset, .unset, .unset, .unset, .unset, .unset, .unset, .unset, .unset, .unset, .unset, .unset, .unset, .unset] [(.long q2)])) rfl (hb hby at_40) _ ?_
    show Steps p.tables e below (s₁.setTop (mkF m 43 #[.val (.int p1), .val (.long q2), .second, .val (.long q3), .second, .val (.long q4), .second, .val (.long q5), .second, .val (.int f0), .val (.int f1), .val (.int f2), .unset, .unset, .unset, .unset, .unset, .unset, .unset, .unset, .unset, .unset, .unset, .unset, .unset, .unset, .unset, .unset, .unset, .unset, .unset, .unset, .unset, .unset] [(.long (9223372036854775807 : Int64)), (.long q2)])) _
    refine XS.land X0.here hx rfl (hb hby at_43) rfl ?_
    show Steps p.tables e below (s₁.setTop (mkF m 44 #[.val (.int p1), .val (.long q2), .second, .val (.long q3), .second, .val (.long q4), .second, .val (.long q5), .second, .val (.int f0), .val (.int f1), .val (.int f2), .unset, .unset, .unset, .unset, .unset, .unset, .unset, .unset, .unset, .unset, .unset, .unset, .unset, .unset, .unset, .unset, .unset, .unset, .unset, .unset, .unset, .unset] [(.long (q2 &&& (9223372036854775807 : Int64)))])) _
    refine XS.lstore X0.here hx rfl (hb hby at_44) rfl (l' := #[.val (.int p1), .val (.long q2), .second, .val (.long q3), .second, .val (.long q4), .second, .val (.long q5), .second, .val (.int f0), .val (.int f1), .val (.int f2), .val (.long (q2 &&& (9223372036854775807 : Int64))), .second, .unset, .unset, .unset, .unset, .unset, .unset, .unset, .unset, .unset, .unset, .unset, .unset, .unset, .unset, .unset, .unset, .unset, .unset, .unset, .unset]) rfl ?_
    exact k)
  obtain ⟨u0, hd_u0⟩ : ∃ z : Int64, z = (q2 &&& (9223372036854775807 : Int64)) := ⟨_, rfl⟩
  have k5 : ∀ t, Steps p.tables e below (s₁.setTop (mkF m 46 #[.val (.int p1), .val (.long q2), .second, .val (.long q3), .second, .val (.long q4), .second, .val (.long q5), .second, .val (.int f0), .val (.int f1), .val (.int f2), .val (.long u0), .second, .unset, .unset, .unset, .unset, .unset, .unset, .unset, .unset, .unset, .unset, .unset, .unset, .unset, .unset, .unset, .unset, .unset, .unset, .unset, .unset] [])) t → Steps p.tables e below (s₁.setTop (entryFrame m #[(.int p1), (.long q2), (.long q3), (.long q4), (.long q5)] maxLocals)) t := by rw [hd_u0]; exact k4
  have hu0 : ¬ u0 < (0 : Int64) := by rw [hd_u0]; exact own_pos _
  have k6 : ∀ t, Steps p.tables e below (s₁.setTop (mkF m 53 #[.val (.int p1), .val (.long q2), .second, .val (.long q3), .second, .val (.long q4), .second, .val (.long q5), .second, .val (.int f0), .val (.int f1), .val (.int f2), .val (.long u0), .second, .val (.long (q3 &&& (9223372036854775807 : Int64))), .second, .unset, .unset, .unset, .unset, .unset, .unset, .unset, .unset, .unset, .unset, .unset, .unset, .unset, .unset, .unset, .unset, .unset, .unset] [])) t → Steps p.tables e below (s₁.setTop (entryFrame m #[(.int p1), (.long q2), (.long q3), (.long q4), (.long q5)] maxLocals)) t := fun t k => k5 t (by
    show Steps p.tables e below (s₁.setTop (mkF m 46 #[.val (.int p1), .val (.long q2), .second, .val (.long q3), .second, .val (.long q4), .second, .val (.long q5), .second, .val (.int f0), .val (.int f1), .val (.int f2), .val (.long u0), .second, .unset, .unset, .unset, .unset, .unset, .unset, .unset, .unset, .unset, .unset, .unset, .unset, .unset, .unset, .unset, .unset, .unset, .unset, .unset, .unset] [])) _
    refine XS.lloadN X0.here hx rfl (hb hby at_46) rfl ?_
    show Steps p.tables e below (s₁.setTop (mkF m 47 #[.val (.int p1), .val (.long q2), .second, .val (.long q3), .second, .val (.long q4), .second, .val (.long q5), .second, .val (.int f0), .val (.int f1), .val (.int f2), .val (.long u0), .second, .unset, .unset, .unset, .unset, .unset, .unset, .unset, .unset, .unset, .unset, .unset, .unset, .unset, .unset, .unset, .unset, .unset, .unset, .unset, .unset] [(.long q3)])) _
    refine X0.ldc2Long hx hown (mvT hZ (hw _ (List.mem_of_getElem? (i := 0) rfl))) (g := (mkF m 47 #[.val (.int p1), .val (.long q2), .second, .val (.long q3), .second, .val (.long q4), .second, .val (.long q5), .second, .val (.int f0), .val (.int f1), .val (.int f2), .val (.long u0), .second, .unset, .unset, .unset, .unset, .unset, .unset, .unset, .unset, .unset, .unset, .unset, .unset, .unset, .unset, .unset, .unset, .unset, .unset, .unset, .unset] [(.long q3)])) rfl (hb hby at_47) _ ?_
    show Steps p.tables e below (s₁.setTop (mkF m 50 #[.val (.int p1), .val (.long q2), .second, .val (.long q3), .second, .val (.long q4), .second, .val (.long q5), .second, .val (.int f0), .val (.int f1), .val (.int f2), .val (.long u0), .second, .unset, .unset, .unset, .unset, .unset, .unset, .unset, .unset, .unset, .unset, .unset, .unset, .unset, .unset, .unset, .unset, .unset, .unset, .unset, .unset] [(.long (9223372036854775807 : Int64)), (.long q3)])) _
    refine XS.land X0.here hx rfl (hb hby at_50) rfl ?_
    show Steps p.tables e below (s₁.setTop (mkF m 51 #[.val (.int p1), .val (.long q2), .second, .val (.long q3), .second, .val (.long q4), .second, .val (.long q5), .second, .val (.int f0), .val (.int f1), .val (.int f2), .val (.long u0), .second, .unset, .unset, .unset, .unset, .unset, .unset, .unset, .unset, .unset, .unset, .unset, .unset, .unset, .unset, .unset, .unset, .unset, .unset, .unset, .unset] [(.long (q3 &&& (9223372036854775807 : Int64)))])) _
    refine XS.lstore X0.here hx rfl (hb hby at_51) rfl (l' := #[.val (.int p1), .val (.long q2), .second, .val (.long q3), .second, .val (.long q4), .second, .val (.long q5), .second, .val (.int f0), .val (.int f1), .val (.int f2), .val (.long u0), .second, .val (.long (q3 &&& (9223372036854775807 : Int64))), .second, .unset, .unset, .unset, .unset, .unset, .unset, .unset, .unset, .unset, .unset, .unset, .unset, .unset, .unset, .unset, .unset, .unset, .unset]) rfl ?_
    exact k)
  obtain ⟨u1, hd_u1⟩ : ∃ z : Int64, z = (q3 &&& (9223372036854775807 : Int64)) := ⟨_, rfl⟩
  have k7 : ∀ t, Steps p.tables e below (s₁.setTop (mkF m 53 #[.val (.int p1), .val (.long q2), .second, .val (.long q3), .second, .val (.long q4), .second, .val (.long q5), .second, .val (.int f0), .val (.int f1), .val (.int f2), .val (.long u0), .second, .val (.long u1), .second, .unset, .unset, .unset, .unset, .unset, .unset, .unset, .unset, .unset, .unset, .unset, .unset, .unset, .unset, .unset, .unset, .unset, .unset] [])) t → Steps p.tables e below (s₁.setTop (entryFrame m #[(.int p1), (.long q2), (.long q3), (.long q4), (.long q5)] maxLocals)) t := by rw [hd_u1]; exact k6
  have hu1 : ¬ u1 < (0 : Int64) := by rw [hd_u1]; exact own_pos _
  have k8 : ∀ t, Steps p.tables e below (s₁.setTop (mkF m 61 #[.val (.int p1), .val (.long q2), .second, .val (.long q3), .second, .val (.long q4), .second, .val (.long q5), .second, .val (.int f0), .val (.int f1), .val (.int f2), .val (.long u0), .second, .val (.long u1), .second, .val (.long (q4 &&& (9223372036854775807 : Int64))), .second, .unset, .unset, .unset, .unset, .unset, .unset, .unset, .unset, .unset, .unset, .unset, .unset, .unset, .unset, .unset, .unset] [])) t → Steps p.tables e below (s₁.setTop (entryFrame m #[(.int p1), (.long q2), (.long q3), (.long q4), (.long q5)] maxLocals)) t := fun t k => k7 t (by
    show Steps p.tables e below (s₁.setTop (mkF m 53 #[.val (.int p1), .val (.long q2), .second, .val (.long q3), .second, .val (.long q4), .second, .val (.long q5), .second, .val (.int f0), .val (.int f1), .val (.int f2), .val (.long u0), .second, .val (.long u1), .second, .unset, .unset, .unset, .unset, .unset, .unset, .unset, .unset, .unset, .unset, .unset, .unset, .unset, .unset, .unset, .unset, .unset, .unset] [])) _
    refine XS.lload X0.here hx rfl (hb hby at_53) rfl ?_
    show Steps p.tables e below (s₁.setTop (mkF m 55 #[.val (.int p1), .val (.long q2), .second, .val (.long q3), .second, .val (.long q4), .second, .val (.long q5), .second, .val (.int f0), .val (.int f1), .val (.int f2), .val (.long u0), .second, .val (.long u1), .second, .unset, .unset, .unset, .unset, .unset, .unset, .unset, .unset, .unset, .unset, .unset, .unset, .unset, .unset, .unset, .unset, .unset, .unset] [(.long q4)])) _
    refine X0.ldc2Long hx hown (mvT hZ (hw _ (List.mem_of_getElem? (i := 0) rfl))) (g := (mkF m 55 #[.val (.int p1), .val (.long q2), .second, .val (.long q3), .second, .val (.long q4), .second, .val (.long q5), .second, .val (.int f0), .val (.int f1), .val (.int f2), .val (.long u0), .second, .val (.long u1), .second, .unset, .unset, .unset, .unset, .unset, .unset, .unset, .unset, .unset, .unset, .unset, .unset, .unset, .unset, .unset, .unset, .unset, .unset] [(.long q4)])) rfl (hb hby at_55) _ ?_
    show Steps p.tables e below (s₁.setTop (mkF m 58 #[.val (.int p1), .val (.long q2), .second, .val (.long q3), .second, .val (.long q4), .second, .val (.long q5), .second, .val (.int f0), .val (.int f1), .val (.int f2), .val (.long u0), .second, .val (.long u1), .second, .unset, .unset, .unset, .unset, .unset, .unset, .unset, .unset, .unset, .unset, .unset, .unset, .unset, .unset, .unset, .unset, .unset, .unset] [(.long (9223372036854775807 : Int64)), (.long q4)])) _
    refine XS.land X0.here hx rfl (hb hby at_58) rfl ?_
    show Steps p.tables e below (s₁.setTop (mkF m 59 #[.val (.int p1), .val (.long q2), .second, .val (.long q3), .second, .val (.long q4), .second, .val (.long q5), .second, .val (.int f0), .val (.int f1), .val (.int f2), .val (.long u0), .second, .val (.long u1), .second, .unset, .unset, .unset, .unset, .unset, .unset, .unset, .unset, .unset, .unset, .unset, .unset, .unset, .unset, .unset, .unset, .unset, .unset] [(.long (q4 &&& (9223372036854775807 : Int64)))])) _
    refine XS.lstore X0.here hx rfl (hb hby at_59) rfl (l' := #[.val (.int p1), .val (.long q2), .second, .val (.long q3), .second, .val (.long q4), .second, .val (.long q5), .second, .val (.int f0), .val (.int f1), .val (.int f2), .val (.long u0), .second, .val (.long u1), .second, .val (.long (q4 &&& (9223372036854775807 : Int64))), .second, .unset, .unset, .unset, .unset, .unset, .unset, .unset, .unset, .unset, .unset, .unset, .unset, .unset, .unset, .unset, .unset]) rfl ?_
    exact k)
  obtain ⟨u2, hd_u2⟩ : ∃ z : Int64, z = (q4 &&& (9223372036854775807 : Int64)) := ⟨_, rfl⟩
  have k9 : ∀ t, Steps p.tables e below (s₁.setTop (mkF m 61 #[.val (.int p1), .val (.long q2), .second, .val (.long q3), .second, .val (.long q4), .second, .val (.long q5), .second, .val (.int f0), .val (.int f1), .val (.int f2), .val (.long u0), .second, .val (.long u1), .second, .val (.long u2), .second, .unset, .unset, .unset, .unset, .unset, .unset, .unset, .unset, .unset, .unset, .unset, .unset, .unset, .unset, .unset, .unset] [])) t → Steps p.tables e below (s₁.setTop (entryFrame m #[(.int p1), (.long q2), (.long q3), (.long q4), (.long q5)] maxLocals)) t := by rw [hd_u2]; exact k8
  have hu2 : ¬ u2 < (0 : Int64) := by rw [hd_u2]; exact own_pos _
  have k10 : ∀ t, Steps p.tables e below (s₁.setTop (mkF m 66 #[.val (.int p1), .val (.long q2), .second, .val (.long q3), .second, .val (.long q4), .second, .val (.long q5), .second, .val (.int f0), .val (.int f1), .val (.int f2), .val (.long u0), .second, .val (.long u1), .second, .val (.long u2), .second, .unset, .unset, .unset, .unset, .unset, .unset, .unset, .unset, .unset, .unset, .unset, .unset, .unset, .unset, .unset, .unset] [(.int (((p1.toUInt32 >>> ((3 : Int32) &&& 31).toUInt32).toInt32) &&& (3 : Int32)))])) t → Steps p.tables e below (s₁.setTop (entryFrame m #[(.int p1), (.long q2), (.long q3), (.long q4), (.long q5)] maxLocals)) t := fun t k => k9 t (by
    show Steps p.tables e below (s₁.setTop (mkF m 61 #[.val (.int p1), .val (.long q2), .second, .val (.long q3), .second, .val (.long q4), .second, .val (.long q5), .second, .val (.int f0), .val (.int f1), .val (.int f2), .val (.long u0), .second, .val (.long u1), .second, .val (.long u2), .second, .unset, .unset, .unset, .unset, .unset, .unset, .unset, .unset, .unset, .unset, .unset, .unset, .unset, .unset, .unset, .unset] [])) _
    refine XS.iloadN X0.here hx rfl (hb hby at_61) rfl ?_
    show Steps p.tables e below (s₁.setTop (mkF m 62 #[.val (.int p1), .val (.long q2), .second, .val (.long q3), .second, .val (.long q4), .second, .val (.long q5), .second, .val (.int f0), .val (.int f1), .val (.int f2), .val (.long u0), .second, .val (.long u1), .second, .val (.long u2), .second, .unset, .unset, .unset, .unset, .unset, .unset, .unset, .unset, .unset, .unset, .unset, .unset, .unset, .unset, .unset, .unset] [(.int p1)])) _
    refine XS.iconst X0.here hx rfl (hb hby at_62) ?_
    show Steps p.tables e below (s₁.setTop (mkF m 63 #[.val (.int p1), .val (.long q2), .second, .val (.long q3), .second, .val (.long q4), .second, .val (.long q5), .second, .val (.int f0), .val (.int f1), .val (.int f2), .val (.long u0), .second, .val (.long u1), .second, .val (.long u2), .second, .unset, .unset, .unset, .unset, .unset, .unset, .unset, .unset, .unset, .unset, .unset, .unset, .unset, .unset, .unset, .unset] [(.int (3 : Int32)), (.int p1)])) _
    refine XS.iushr X0.here hx rfl (hb hby at_63) rfl ?_
    show Steps p.tables e below (s₁.setTop (mkF m 64 #[.val (.int p1), .val (.long q2), .second, .val (.long q3), .second, .val (.long q4), .second, .val (.long q5), .second, .val (.int f0), .val (.int f1), .val (.int f2), .val (.long u0), .second, .val (.long u1), .second, .val (.long u2), .second, .unset, .unset, .unset, .unset, .unset, .unset, .unset, .unset, .unset, .unset, .unset, .unset, .unset, .unset, .unset, .unset] [(.int ((p1.toUInt32 >>> ((3 : Int32) &&& 31).toUInt32).toInt32))])) _
    refine XS.iconst X0.here hx rfl (hb hby at_64) ?_
    show Steps p.tables e below (s₁.setTop (mkF m 65 #[.val (.int p1), .val (.long q2), .second, .val (.long q3), .second, .val (.long q4), .second, .val (.long q5), .second, .val (.int f0), .val (.int f1), .val (.int f2), .val (.long u0), .second, .val (.long u1), .second, .val (.long u2), .second, .unset, .unset, .unset, .unset, .unset, .unset, .unset, .unset, .unset, .unset, .unset, .unset, .unset, .unset, .unset, .unset] [(.int (3 : Int32)), (.int ((p1.toUInt32 >>> ((3 : Int32) &&& 31).toUInt32).toInt32))])) _
    refine XS.iand X0.here hx rfl (hb hby at_65) rfl ?_
    exact k)
  obtain ⟨len0, hd_len0⟩ : ∃ z : Int32, z = (((p1.toUInt32 >>> ((3 : Int32) &&& 31).toUInt32).toInt32) &&& (3 : Int32)) := ⟨_, rfl⟩
  have k11 : ∀ t, Steps p.tables e below (s₁.setTop (mkF m 66 #[.val (.int p1), .val (.long q2), .second, .val (.long q3), .second, .val (.long q4), .second, .val (.long q5), .second, .val (.int f0), .val (.int f1), .val (.int f2), .val (.long u0), .second, .val (.long u1), .second, .val (.long u2), .second, .unset, .unset, .unset, .unset, .unset, .unset, .unset, .unset, .unset, .unset, .unset, .unset, .unset, .unset, .unset, .unset] [(.int len0)])) t → Steps p.tables e below (s₁.setTop (entryFrame m #[(.int p1), (.long q2), (.long q3), (.long q4), (.long q5)] maxLocals)) t := by rw [hd_len0]; exact k10
  obtain ⟨nl0, cl0⟩ : ¬ len0 < 0 ∧ len0.toNatClampNeg ≤ 3 := by rw [hd_len0]; exact own_len3 _
  obtain ⟨T12, h12, kc12, X12, e12, Ex12, A12, Ea12, st12⟩ := newPE X0 hx hZ (hw _ (List.mem_of_getElem? (i := 1) rfl)) e0 (g := (mkF m 66 #[.val (.int p1), .val (.long q2), .second, .val (.long q3), .second, .val (.long q4), .second, .val (.long q5), .second, .val (.int f0), .val (.int f1), .val (.int f2), .val (.long u0), .second, .val (.long u1), .second, .val (.long u2), .second, .unset, .unset, .unset, .unset, .unset, .unset, .unset, .unset, .unset, .unset, .unset, .unset, .unset, .unset, .unset, .unset] [(.int len0)])) rfl (hb hby at_66) rfl nl0 (cap := 3) cl0 (by decide) (by decide) (by decide) (ad := "[B") rfl
  obtain ⟨b12, g12⟩ : ∃ z, z = h0.size := ⟨_, rfl⟩
  rw [← g12] at A12 Ea12 st12
  have sz_b12 : h0.size ≤ b12 := Nat.le_trans (Keep.refl h0 []).1 (Nat.le_of_eq g12.symm)
  have g_b12 : n0 ≤ b12 := Nat.le_trans Z0 sz_b12
  have O13 : Old Z n0 h12 := O0.ext Ex12
  have E14 : Exa Z h12 b12 "[B" := Ea12
  have V15 : Arv Z h12 b12 kc12 .byte len0 [] (defaultValue .byte) := Arv.new A12 nl0
  have K16 : Keep h0 h12 [] := (Keep.refl h0 []).ext Ex12
  have k17 : ∀ t, Steps p.tables e below (T12.setTop (mkF m 75 #[.val (.int p1), .val (.long q2), .second, .val (.long q3), .second, .val (.long q4), .second, .val (.long q5), .second, .val (.int f0), .val (.int f1), .val (.int f2), .val (.long u0), .second, .val (.long u1), .second, .val (.long u2), .second, .val (.ref b12), .unset, .unset, .unset, .unset, .unset, .unset, .unset, .unset, .unset, .unset, .unset, .unset, .unset, .unset, .unset] [(.int (((p1.toUInt32 >>> ((5 : Int32) &&& 31).toUInt32).toInt32) &&& (3 : Int32)))])) t → Steps p.tables e below (s₁.setTop (entryFrame m #[(.int p1), (.long q2), (.long q3), (.long q4), (.long q5)] maxLocals)) t := fun t k => k11 t (by
    show Steps p.tables e below (s₁.setTop (mkF m 66 #[.val (.int p1), .val (.long q2), .second, .val (.long q3), .second, .val (.long q4), .second, .val (.long q5), .second, .val (.int f0), .val (.int f1), .val (.int f2), .val (.long u0), .second, .val (.long u1), .second, .val (.long u2), .second, .unset, .unset, .unset, .unset, .unset, .unset, .unset, .unset, .unset, .unset, .unset, .unset, .unset, .unset, .unset, .unset] [(.int len0)])) _
    refine st12 _ ?_
    show Steps p.tables e below (T12.setTop (mkF m 68 #[.val (.int p1), .val (.long q2), .second, .val (.long q3), .second, .val (.long q4), .second, .val (.long q5), .second, .val (.int f0), .val (.int f1), .val (.int f2), .val (.long u0), .second, .val (.long u1), .second, .val (.long u2), .second, .unset, .unset, .unset, .unset, .unset, .unset, .unset, .unset, .unset, .unset, .unset, .unset, .unset, .unset, .unset, .unset] [(.ref b12)])) _
    refine XS.astore X12.here hx rfl (hb hby at_68) rfl rfl (l' := #[.val (.int p1), .val (.long q2), .second, .val (.long q3), .second, .val (.long q4), .second, .val (.long q5), .second, .val (.int f0), .val (.int f1), .val (.int f2), .val (.long u0), .second, .val (.long u1), .second, .val (.long u2), .second, .val (.ref b12), .unset, .unset, .unset, .unset, .unset, .unset, .unset, .unset, .unset, .unset, .unset, .unset, .unset, .unset, .unset]) rfl ?_
    show Steps p.tables e below (T12.setTop (mkF m 70 #[.val (.int p1), .val (.long q2), .second, .val (.long q3), .second, .val (.long q4), .second, .val (.long q5), .second, .val (.int f0), .val (.int f1), .val (.int f2), .val (.long u0), .second, .val (.long u1), .second, .val (.long u2), .second, .val (.ref b12), .unset, .unset, .unset, .unset, .unset, .unset, .unset, .unset, .unset, .unset, .unset, .unset, .unset, .unset, .unset] [])) _
    refine XS.iloadN X12.here hx rfl (hb hby at_70) rfl ?_
    show Steps p.tables e below (T12.setTop (mkF m 71 #[.val (.int p1), .val (.long q2), .second, .val (.long q3), .second, .val (.long q4), .second, .val (.long q5), .second, .val (.int f0), .val (.int f1), .val (.int f2), .val (.long u0), .second, .val (.long u1), .second, .val (.long u2), .second, .val (.ref b12), .unset, .unset, .unset, .unset, .unset, .unset, .unset, .unset, .unset, .unset, .unset, .unset, .unset, .unset, .unset] [(.int p1)])) _
    refine XS.iconst X12.here hx rfl (hb hby at_71) ?_
    show Steps p.tables e below (T12.setTop (mkF m 72 #[.val (.int p1), .val (.long q2), .second, .val (.long q3), .second, .val (.long q4), .second, .val (.long q5), .second, .val (.int f0), .val (.int f1), .val (.int f2), .val (.long u0), .second, .val (.long u1), .second, .val (.long u2), .second, .val (.ref b12), .unset, .unset, .unset, .unset, .unset, .unset, .unset, .unset, .unset, .unset, .unset, .unset, .unset, .unset, .unset] [(.int (5 : Int32)), (.int p1)])) _
    refine XS.iushr X12.here hx rfl (hb hby at_72) rfl ?_
    show Steps p.tables e below (T12.setTop (mkF m 73 #[.val (.int p1), .val (.long q2), .second, .val (.long q3), .second, .val (.long q4), .second, .val (.long q5), .second, .val (.int f0), .val (.int f1), .val (.int f2), .val (.long u0), .second, .val (.long u1), .second, .val (.long u2), .second, .val (.ref b12), .unset, .unset, .unset, .unset, .unset, .unset, .unset, .unset, .unset, .unset, .unset, .unset, .unset, .unset, .unset] [(.int ((p1.toUInt32 >>> ((5 : Int32) &&& 31).toUInt32).toInt32))])) _
    refine XS.iconst X12.here hx rfl (hb hby at_73) ?_
    show Steps p.tables e below (T12.setTop (mkF m 74 #[.val (.int p1), .val (.long q2), .second, .val (.long q3), .second, .val (.long q4), .second, .val (.long q5), .second, .val (.int f0), .val (.int f1), .val (.int f2), .val (.long u0), .second, .val (.long u1), .second, .val (.long u2), .second, .val (.ref b12), .unset, .unset, .unset, .unset, .unset, .unset, .unset, .unset, .unset, .unset, .unset, .unset, .unset, .unset, .unset] [(.int (3 : Int32)), (.int ((p1.toUInt32 >>> ((5 : Int32) &&& 31).toUInt32).toInt32))])) _
    refine XS.iand X12.here hx rfl (hb hby at_74) rfl ?_
    exact k)
  obtain ⟨len1, hd_len1⟩ : ∃ z : Int32, z = (((p1.toUInt32 >>> ((5 : Int32) &&& 31).toUInt32).toInt32) &&& (3 : Int32)) := ⟨_, rfl⟩
  have k18 : ∀ t, Steps p.tables e below (T12.setTop (mkF m 75 #[.val (.int p1), .val (.long q2), .second, .val (.long q3), .second, .val (.long q4), .second, .val (.long q5), .second, .val (.int f0), .val (.int f1), .val (.int f2), .val (.long u0), .second, .val (.long u1), .second, .val (.long u2), .second, .val (.ref b12), .unset, .unset, .unset, .unset, .unset, .unset, .unset, .unset, .unset, .unset, .unset, .unset, .unset, .unset, .unset] [(.int len1)])) t → Steps p.tables e below (s₁.setTop (entryFrame m #[(.int p1), (.long q2), (.long q3), (.long q4), (.long q5)] maxLocals)) t := by rw [hd_len1]; exact k17
  obtain ⟨nl1, cl1⟩ : ¬ len1 < 0 ∧ len1.toNatClampNeg ≤ 3 := by rw [hd_len1]; exact own_len3 _
  obtain ⟨T19, h19, kc19, X19, e19, Ex19, A19, Ea19, st19⟩ := newPE X12 hx hZ (hw _ (List.mem_of_getElem? (i := 1) rfl)) e12 (g := (mkF m 75 #[.val (.int p1), .val (.long q2), .second, .val (.long q3), .second, .val (.long q4), .second, .val (.long q5), .second, .val (.int f0), .val (.int f1), .val (.int f2), .val (.long u0), .second, .val (.long u1), .second, .val (.long u2), .second, .val (.ref b12), .unset, .unset, .unset, .unset, .unset, .unset, .unset, .unset, .unset, .unset, .unset, .unset, .unset, .unset, .unset] [(.int len1)])) rfl (hb hby at_75) rfl nl1 (cap := 3) cl1 (by decide) (by decide) (by decide) (ad := "[B") rfl
  obtain ⟨b19, g19⟩ : ∃ z, z = h12.size := ⟨_, rfl⟩
  rw [← g19] at A19 Ea19 st19
  have sz_b19 : h0.size ≤ b19 := Nat.le_trans K16.1 (Nat.le_of_eq g19.symm)
  have g_b19 : n0 ≤ b19 := Nat.le_trans Z0 sz_b19
  have ne20 : b12 ≠ b19 := Nat.ne_of_lt (Nat.lt_of_lt_of_le E14.lt (Nat.le_of_eq g19.symm))
  have O21 : Old Z n0 h19 := O13.ext Ex19
  have E22 : Exa Z h19 b12 "[B" := E14.ext Ex19
  have V23 : Arv Z h19 b12 kc12 .byte len0 [] (defaultValue .byte) := V15.ext Ex19
  have E24 : Exa Z h19 b19 "[B" := Ea19
  have V25 : Arv Z h19 b19 kc19 .byte len1 [] (defaultValue .byte) := Arv.new A19 nl1
  have K26 : Keep h0 h19 [] := K16.ext Ex19
  have k27 : ∀ t, Steps p.tables e below (T19.setTop (mkF m 85 #[.val (.int p1), .val (.long q2), .second, .val (.long q3), .second, .val (.long q4), .second, .val (.long q5), .second, .val (.int f0), .val (.int f1), .val (.int f2), .val (.long u0), .second, .val (.long u1), .second, .val (.long u2), .second, .val (.ref b12), .val (.ref b19), .unset, .unset, .unset, .unset, .unset, .unset, .unset, .unset, .unset, .unset, .unset, .unset, .unset, .unset] [(.int (((p1.toUInt32 >>> ((7 : Int32) &&& 31).toUInt32).toInt32) &&& (3 : Int32)))])) t → Steps p.tables e below (s₁.setTop (entryFrame m #[(.int p1), (.long q2), (.long q3), (.long q4), (.long q5)] maxLocals)) t := fun t k => k18 t (by
    show Steps p.tables e below (T12.setTop (mkF m 75 #[.val (.int p1), .val (.long q2), .second, .val (.long q3), .second, .val (.long q4), .second, .val (.long q5), .second, .val (.int f0), .val (.int f1), .val (.int f2), .val (.long u0), .second, .val (.long u1), .second, .val (.long u2), .second, .val (.ref b12), .unset, .unset, .unset, .unset, .unset, .unset, .unset, .unset, .unset, .unset, .unset, .unset, .unset, .unset, .unset] [(.int len1)])) _
    refine st19 _ ?_
    show Steps p.tables e below (T19.setTop (mkF m 77 #[.val (.int p1), .val (.long q2), .second, .val (.long q3), .second, .val (.long q4), .second, .val (.long q5), .second, .val (.int f0), .val (.int f1), .val (.int f2), .val (.long u0), .second, .val (.long u1), .second, .val (.long u2), .second, .val (.ref b12), .unset, .unset, .unset, .unset, .unset, .unset, .unset, .unset, .unset, .unset, .unset, .unset, .unset, .unset, .unset] [(.ref b19)])) _
    refine XS.astore X19.here hx rfl (hb hby at_77) rfl rfl (l' := #[.val (.int p1), .val (.long q2), .second, .val (.long q3), .second, .val (.long q4), .second, .val (.long q5), .second, .val (.int f0), .val (.int f1), .val (.int f2), .val (.long u0), .second, .val (.long u1), .second, .val (.long u2), .second, .val (.ref b12), .val (.ref b19), .unset, .unset, .unset, .unset, .unset, .unset, .unset, .unset, .unset, .unset, .unset, .unset, .unset, .unset]) rfl ?_
    show Steps p.tables e below (T19.setTop (mkF m 79 #[.val (.int p1), .val (.long q2), .second, .val (.long q3), .second, .val (.long q4), .second, .val (.long q5), .second, .val (.int f0), .val (.int f1), .val (.int f2), .val (.long u0), .second, .val (.long u1), .second, .val (.long u2), .second, .val (.ref b12), .val (.ref b19), .unset, .unset, .unset, .unset, .unset, .unset, .unset, .unset, .unset, .unset, .unset, .unset, .unset, .unset] [])) _
    refine XS.iloadN X19.here hx rfl (hb hby at_79) rfl ?_
    show Steps p.tables e below (T19.setTop (mkF m 80 #[.val (.int p1), .val (.long q2), .second, .val (.long q3), .second, .val (.long q4), .second, .val (.long q5), .second, .val (.int f0), .val (.int f1), .val (.int f2), .val (.long u0), .second, .val (.long u1), .second, .val (.long u2), .second, .val (.ref b12), .val (.ref b19), .unset, .unset, .unset, .unset, .unset, .unset, .unset, .unset, .unset, .unset, .unset, .unset, .unset, .unset] [(.int p1)])) _
    refine XS.bipush X19.here hx rfl (hb hby at_80) ?_
    show Steps p.tables e below (T19.setTop (mkF m 82 #[.val (.int p1), .val (.long q2), .second, .val (.long q3), .second, .val (.long q4), .second, .val (.long q5), .second, .val (.int f0), .val (.int f1), .val (.int f2), .val (.long u0), .second, .val (.long u1), .second, .val (.long u2), .second, .val (.ref b12), .val (.ref b19), .unset, .unset, .unset, .unset, .unset, .unset, .unset, .unset, .unset, .unset, .unset, .unset, .unset, .unset] [(.int (7 : Int32)), (.int p1)])) _
    refine XS.iushr X19.here hx rfl (hb hby at_82) rfl ?_
    show Steps p.tables e below (T19.setTop (mkF m 83 #[.val (.int p1), .val (.long q2), .second, .val (.long q3), .second, .val (.long q4), .second, .val (.long q5), .second, .val (.int f0), .val (.int f1), .val (.int f2), .val (.long u0), .second, .val (.long u1), .second, .val (.long u2), .second, .val (.ref b12), .val (.ref b19), .unset, .unset, .unset, .unset, .unset, .unset, .unset, .unset, .unset, .unset, .unset, .unset, .unset, .unset] [(.int ((p1.toUInt32 >>> ((7 : Int32) &&& 31).toUInt32).toInt32))])) _
    refine XS.iconst X19.here hx rfl (hb hby at_83) ?_
    show Steps p.tables e below (T19.setTop (mkF m 84 #[.val (.int p1), .val (.long q2), .second, .val (.long q3), .second, .val (.long q4), .second, .val (.long q5), .second, .val (.int f0), .val (.int f1), .val (.int f2), .val (.long u0), .second, .val (.long u1), .second, .val (.long u2), .second, .val (.ref b12), .val (.ref b19), .unset, .unset, .unset, .unset, .unset, .unset, .unset, .unset, .unset, .unset, .unset, .unset, .unset, .unset] [(.int (3 : Int32)), (.int ((p1.toUInt32 >>> ((7 : Int32) &&& 31).toUInt32).toInt32))])) _
    refine XS.iand X19.here hx rfl (hb hby at_84) rfl ?_
    exact k)
  obtain ⟨len2, hd_len2⟩ : ∃ z : Int32, z = (((p1.toUInt32 >>> ((7 : Int32) &&& 31).toUInt32).toInt32) &&& (3 : Int32)) := ⟨_, rfl⟩
  have k28 : ∀ t, Steps p.tables e below (T19.setTop (mkF m 85 #[.val (.int p1), .val (.long q2), .second, .val (.long q3), .second, .val (.long q4), .second, .val (.long q5), .second, .val (.int f0), .val (.int f1), .val (.int f2), .val (.long u0), .second, .val (.long u1), .second, .val (.long u2), .second, .val (.ref b12), .val (.ref b19), .unset, .unset, .unset, .unset, .unset, .unset, .unset, .unset, .unset, .unset, .unset, .unset, .unset, .unset] [(.int len2)])) t → Steps p.tables e below (s₁.setTop (entryFrame m #[(.int p1), (.long q2), (.long q3), (.long q4), (.long q5)] maxLocals)) t := by rw [hd_len2]; exact k27
  obtain ⟨nl2, cl2⟩ : ¬ len2 < 0 ∧ len2.toNatClampNeg ≤ 3 := by rw [hd_len2]; exact own_len3 _
  obtain ⟨T29, h29, kc29, X29, e29, Ex29, A29, Ea29, st29⟩ := newPE X19 hx hZ (hw _ (List.mem_of_getElem? (i := 1) rfl)) e19 (g := (mkF m 85 #[.val (.int p1), .val (.long q2), .second, .val (.long q3), .second, .val (.long q4), .second, .val (.long q5), .second, .val (.int f0), .val (.int f1), .val (.int f2), .val (.long u0), .second, .val (.long u1), .second, .val (.long u2), .second, .val (.ref b12), .val (.ref b19), .unset, .unset, .unset, .unset, .unset, .unset, .unset, .unset, .unset, .unset, .unset, .unset, .unset, .unset] [(.int len2)])) rfl (hb hby at_85) rfl nl2 (cap := 3) cl2 (by decide) (by decide) (by decide) (ad := "[B") rfl
  obtain ⟨b29, g29⟩ : ∃ z, z = h19.size := ⟨_, rfl⟩
  rw [← g29] at A29 Ea29 st29
  have sz_b29 : h0.size ≤ b29 := Nat.le_trans K26.1 (Nat.le_of_eq g29.symm)
  have g_b29 : n0 ≤ b29 := Nat.le_trans Z0 sz_b29
  have ne30 : b12 ≠ b29 := Nat.ne_of_lt (Nat.lt_of_lt_of_le E22.lt (Nat.le_of_eq g29.symm))
  have ne31 : b19 ≠ b29 := Nat.ne_of_lt (Nat.lt_of_lt_of_le E24.lt (Nat.le_of_eq g29.symm))
  have O32 : Old Z n0 h29 := O21.ext Ex29
  have E33 : Exa Z h29 b12 "[B" := E22.ext Ex29
  have V34 : Arv Z h29 b12 kc12 .byte len0 [] (defaultValue .byte) := V23.ext Ex29
  have E35 : Exa Z h29 b19 "[B" := E24.ext Ex29
  have V36 : Arv Z h29 b19 kc19 .byte len1 [] (defaultValue .byte) := V25.ext Ex29
  have E37 : Exa Z h29 b29 "[B" := Ea29
  have V38 : Arv Z h29 b29 kc29 .byte len2 [] (defaultValue .byte) := Arv.new A29 nl2
  have K39 : Keep h0 h29 [] := K26.ext Ex29
  obtain ⟨T40, h40, X40, e40, Ex40, A40, D40, -, st40⟩ := newO X29 hx hZ hown (hw _ (List.mem_of_getElem? (i := 2) rfl)) (hw _ (List.mem_of_getElem? (i := 3) rfl)) (hw _ (List.mem_of_getElem? (i := 4) rfl)) e29 (g := (mkF m 89 #[.val (.int p1), .val (.long q2), .second, .val (.long q3), .second, .val (.long q4), .second, .val (.long q5), .second, .val (.int f0), .val (.int f1), .val (.int f2), .val (.long u0), .second, .val (.long u1), .second, .val (.long u2), .second, .val (.ref b12), .val (.ref b19), .val (.ref b29), .unset, .unset, .unset, .unset, .unset, .unset, .unset, .unset, .unset, .unset, .unset, .unset, .unset] [])) rfl (hb hby at_89) (by decide) (by decide)
  obtain ⟨b40, g40⟩ : ∃ z, z = h29.size := ⟨_, rfl⟩
  rw [← g40] at A40 D40 st40
  have sz_b40 : h0.size ≤ b40 := Nat.le_trans K39.1 (Nat.le_of_eq g40.symm)
  have g_b40 : n0 ≤ b40 := Nat.le_trans Z0 sz_b40
  have ne41 : b12 ≠ b40 := Nat.ne_of_lt (Nat.lt_of_lt_of_le E33.lt (Nat.le_of_eq g40.symm))
  have ne42 : b19 ≠ b40 := Nat.ne_of_lt (Nat.lt_of_lt_of_le E35.lt (Nat.le_of_eq g40.symm))
  have ne43 : b29 ≠ b40 := Nat.ne_of_lt (Nat.lt_of_lt_of_le E37.lt (Nat.le_of_eq g40.symm))
  have O44 : Old Z n0 h40 := O32.ext Ex40
  have E45 : Exa Z h40 b12 "[B" := E33.ext Ex40
  have V46 : Arv Z h40 b12 kc12 .byte len0 [] (defaultValue .byte) := V34.ext Ex40
  have E47 : Exa Z h40 b19 "[B" := E35.ext Ex40
  have V48 : Arv Z h40 b19 kc19 .byte len1 [] (defaultValue .byte) := V36.ext Ex40
  have E49 : Exa Z h40 b29 "[B" := E37.ext Ex40
  have V50 : Arv Z h40 b29 kc29 .byte len2 [] (defaultValue .byte) := V38.ext Ex40
  have E51 : Exa Z h40 b40 "com/example/lumenbus/lumenbus/log/Batch" := A40
  have F52 : Fld Z h40 b40 "com/example/lumenbus/lumenbus/log/Batch" "payloads" "Ljava/util/List;" .null := D40 (Or.inr (hw _ (List.mem_of_getElem? (i := 36) rfl))) (ty := (.object "java/util/List")) (by decide)
  have F53 : Fld Z h40 b40 "com/example/lumenbus/lumenbus/log/Batch" "timestamps" "[J" .null := D40 (Or.inl (hw _ (List.mem_of_getElem? (i := 39) rfl))) (ty := (.array .long)) (by decide)
  have F54 : Fld Z h40 b40 "com/example/lumenbus/lumenbus/log/Batch" "bytes" "J" (.long (0 : Int64)) := D40 (Or.inl (hw _ (List.mem_of_getElem? (i := 94) rfl))) (ty := .long) (by decide)
  have K55 : Keep h0 h40 [] := K39.ext Ex40
  obtain ⟨_, _, ⟨T56, L56, kk56, n56⟩, -, X56, ⟨Lc56, hQ56, l56, y56, z56⟩, st56⟩ := X40.specialBack hx (y := (⟨"com/example/lumenbus/lumenbus/log/Batch", "<init>", "()V"⟩ : MethodName)) rfl hown (mvT hZ (hw _ (List.mem_of_getElem? (i := 5) rfl))) (mvT hZ (hw _ (List.mem_of_getElem? (i := 6) rfl))) (mvT hZ (hw _ (List.mem_of_getElem? (i := 7) rfl))) (by decide) (backOf (W := 1) (rm_binit l Z a0 hw [] b40 w kw h40 n0 (Nat.le_trans Z0 K55.1) E51 F52 F53 F54 g_b40 S0 O44) hZ (hw _ (List.mem_of_getElem? (i := 7) rfl)) (hw _ (List.mem_of_getElem? (i := 4) rfl)) (by decide) (by decide)) (g := (mkF m 93 #[.val (.int p1), .val (.long q2), .second, .val (.long q3), .second, .val (.long q4), .second, .val (.long q5), .second, .val (.int f0), .val (.int f1), .val (.int f2), .val (.long u0), .second, .val (.long u1), .second, .val (.long u2), .second, .val (.ref b12), .val (.ref b19), .val (.ref b29), .unset, .unset, .unset, .unset, .unset, .unset, .unset, .unset, .unset, .unset, .unset, .unset, .unset] [(.ref b40), (.ref b40)])) rfl (by rw [hml]; rfl) (Steps.refl _) (a := b40) (argsL := []) (rest := [(.ref b40)]) (lenOf pd___V rfl) rfl (by show 2 * 0 + _ ≤ _; exact Nat.le_of_eq rfl) (hb hby at_93) (fun _ _ => ⟨rfl, e40, (by decide : 4 + 2 ≤ _), (by decide : 14 + 19 ≤ _)⟩)
  dsimp only [Pt.U, Pt.locs, Pt.cells, Pt.slots] at X56 l56 y56 z56 st56 hQ56
  subst l56 y56 z56
  obtain ⟨rfl, N56q, Ki, al, ts, kt, ⟨za, zt, nat⟩, Sb0, Sl0⟩ := hQ56
  have N56 := Fr.app N0 N56q
  have K57 : Keep h0 T56.heap [] := K55.trans Ki (allS (Or.inr sz_b40) all0)
  have O58 : Old Z n0 T56.heap := O44.keep Ki (allS g_b40 all0)
  have E59 : Exa Z T56.heap b12 "[B" := E45.keep Ki
  have V60 : Arv Z T56.heap b12 kc12 .byte len0 [] (defaultValue .byte) := V46.keep Ki (ninS ne41 nin0)
  have E61 : Exa Z T56.heap b19 "[B" := E47.keep Ki
  have V62 : Arv Z T56.heap b19 kc19 .byte len1 [] (defaultValue .byte) := V48.keep Ki (ninS ne42 nin0)
  have E63 : Exa Z T56.heap b29 "[B" := E49.keep Ki
  have V64 : Arv Z T56.heap b29 kc29 .byte len2 [] (defaultValue .byte) := V50.keep Ki (ninS ne43 nin0)
  have E65 : Exa Z T56.heap b40 "com/example/lumenbus/lumenbus/log/Batch" := E51.keep Ki
  have sz_al : h0.size ≤ al := Nat.le_trans K55.1 za
  have g_al : n0 ≤ al := Nat.le_trans Z0 sz_al
  have n_b40_al : b40 ≠ al := Nat.ne_of_lt (Nat.lt_of_lt_of_le E51.lt za)
  have n_b12_al : b12 ≠ al := Nat.ne_of_lt (Nat.lt_of_lt_of_le E45.lt za)
  have n_b19_al : b19 ≠ al := Nat.ne_of_lt (Nat.lt_of_lt_of_le E47.lt za)
  have n_b29_al : b29 ≠ al := Nat.ne_of_lt (Nat.lt_of_lt_of_le E49.lt za)
  have sz_ts : h0.size ≤ ts := Nat.le_trans K55.1 zt
  have g_ts : n0 ≤ ts := Nat.le_trans Z0 sz_ts
  have n_b40_ts : b40 ≠ ts := Nat.ne_of_lt (Nat.lt_of_lt_of_le E51.lt zt)
  have n_b12_ts : b12 ≠ ts := Nat.ne_of_lt (Nat.lt_of_lt_of_le E45.lt zt)
  have n_b19_ts : b19 ≠ ts := Nat.ne_of_lt (Nat.lt_of_lt_of_le E47.lt zt)
  have n_b29_ts : b29 ≠ ts := Nat.ne_of_lt (Nat.lt_of_lt_of_le E49.lt zt)
  have E66 : Exa Z T56.heap b40 "com/example/lumenbus/lumenbus/log/Batch" := Sb0.1
  have k67 : ∀ t, Steps p.tables e below (T56.setTop (mkF m 100 #[.val (.int p1), .val (.long q2), .second, .val (.long q3), .second, .val (.long q4), .second, .val (.long q5), .second, .val (.int f0), .val (.int f1), .val (.int f2), .val (.long u0), .second, .val (.long u1), .second, .val (.long u2), .second, .val (.ref b12), .val (.ref b19), .val (.ref b29), .val (.ref b40), .unset, .unset, .unset, .unset, .unset, .unset, .unset, .unset, .unset, .unset, .unset, .unset] [(.int f0)])) t → Steps p.tables e below (s₁.setTop (entryFrame m #[(.int p1), (.long q2), (.long q3), (.long q4), (.long q5)] maxLocals)) t := fun t k => k28 t (by
    show Steps p.tables e below (T19.setTop (mkF m 85 #[.val (.int p1), .val (.long q2), .second, .val (.long q3), .second, .val (.long q4), .second, .val (.long q5), .second, .val (.int f0), .val (.int f1), .val (.int f2), .val (.long u0), .second, .val (.long u1), .second, .val (.long u2), .second, .val (.ref b12), .val (.ref b19), .unset, .unset, .unset, .unset, .unset, .unset, .unset, .unset, .unset, .unset, .unset, .unset, .unset, .unset] [(.int len2)])) _
    refine st29 _ ?_
    show Steps p.tables e below (T29.setTop (mkF m 87 #[.val (.int p1), .val (.long q2), .second, .val (.long q3), .second, .val (.long q4), .second, .val (.long q5), .second, .val (.int f0), .val (.int f1), .val (.int f2), .val (.long u0), .second, .val (.long u1), .second, .val (.long u2), .second, .val (.ref b12), .val (.ref b19), .unset, .unset, .unset, .unset, .unset, .unset, .unset, .unset, .unset, .unset, .unset, .unset, .unset, .unset] [(.ref b29)])) _
    refine XS.astore X29.here hx rfl (hb hby at_87) rfl rfl (l' := #[.val (.int p1), .val (.long q2), .second, .val (.long q3), .second, .val (.long q4), .second, .val (.long q5), .second, .val (.int f0), .val (.int f1), .val (.int f2), .val (.long u0), .second, .val (.long u1), .second, .val (.long u2), .second, .val (.ref b12), .val (.ref b19), .val (.ref b29), .unset, .unset, .unset, .unset, .unset, .unset, .unset, .unset, .unset, .unset, .unset, .unset, .unset]) rfl ?_
    show Steps p.tables e below (T29.setTop (mkF m 89 #[.val (.int p1), .val (.long q2), .second, .val (.long q3), .second, .val (.long q4), .second, .val (.long q5), .second, .val (.int f0), .val (.int f1), .val (.int f2), .val (.long u0), .second, .val (.long u1), .second, .val (.long u2), .second, .val (.ref b12), .val (.ref b19), .val (.ref b29), .unset, .unset, .unset, .unset, .unset, .unset, .unset, .unset, .unset, .unset, .unset, .unset, .unset] [])) _
    refine st40 _ ?_
    show Steps p.tables e below (T40.setTop (mkF m 92 #[.val (.int p1), .val (.long q2), .second, .val (.long q3), .second, .val (.long q4), .second, .val (.long q5), .second, .val (.int f0), .val (.int f1), .val (.int f2), .val (.long u0), .second, .val (.long u1), .second, .val (.long u2), .second, .val (.ref b12), .val (.ref b19), .val (.ref b29), .unset, .unset, .unset, .unset, .unset, .unset, .unset, .unset, .unset, .unset, .unset, .unset, .unset] [(.ref b40)])) _
    refine XS.dup X40.here hx rfl (hb hby at_92) rfl rfl ?_
    show Steps p.tables e below (T40.setTop (mkF m 93 #[.val (.int p1), .val (.long q2), .second, .val (.long q3), .second, .val (.long q4), .second, .val (.long q5), .second, .val (.int f0), .val (.int f1), .val (.int f2), .val (.long u0), .second, .val (.long u1), .second, .val (.long u2), .second, .val (.ref b12), .val (.ref b19), .val (.ref b29), .unset, .unset, .unset, .unset, .unset, .unset, .unset, .unset, .unset, .unset, .unset, .unset, .unset] [(.ref b40), (.ref b40)])) _
    refine st56.trans ?_
    show Steps p.tables e below (T56.setTop (mkF m 96 #[.val (.int p1), .val (.long q2), .second, .val (.long q3), .second, .val (.long q4), .second, .val (.long q5), .second, .val (.int f0), .val (.int f1), .val (.int f2), .val (.long u0), .second, .val (.long u1), .second, .val (.long u2), .second, .val (.ref b12), .val (.ref b19), .val (.ref b29), .unset, .unset, .unset, .unset, .unset, .unset, .unset, .unset, .unset, .unset, .unset, .unset, .unset] [(.ref b40)])) _
    refine XS.astore X56.here hx rfl (hb hby at_96) rfl rfl (l' := #[.val (.int p1), .val (.long q2), .second, .val (.long q3), .second, .val (.long q4), .second, .val (.long q5), .second, .val (.int f0), .val (.int f1), .val (.int f2), .val (.long u0), .second, .val (.long u1), .second, .val (.long u2), .second, .val (.ref b12), .val (.ref b19), .val (.ref b29), .val (.ref b40), .unset, .unset, .unset, .unset, .unset, .unset, .unset, .unset, .unset, .unset, .unset, .unset]) rfl ?_
    show Steps p.tables e below (T56.setTop (mkF m 98 #[.val (.int p1), .val (.long q2), .second, .val (.long q3), .second, .val (.long q4), .second, .val (.long q5), .second, .val (.int f0), .val (.int f1), .val (.int f2), .val (.long u0), .second, .val (.long u1), .second, .val (.long u2), .second, .val (.ref b12), .val (.ref b19), .val (.ref b29), .val (.ref b40), .unset, .unset, .unset, .unset, .unset, .unset, .unset, .unset, .unset, .unset, .unset, .unset] [])) _
    refine XS.iload X56.here hx rfl (hb hby at_98) rfl ?_
    exact k)
  obtain ⟨ev0, hev0⟩ : ∃ z : Int64, z = if f0 = (0 : Int32) then (-1 : Int64) else u0 := ⟨_, rfl⟩
  obtain ⟨T68, L68, edx, bt1, X68, J68_0, J68_1, J68_2, J68_3, J68_4, J68_5, J68_6, J68_7, J68_8, J68_9, J68_10, k68⟩ : ∃ (T' : State) (L' : List Loc) (edx : Addr) (bt' : Int64), Stand p l e room_1 s m #[(.int p1), (.long q2), (.long q3), (.long q4), (.long q5)] below meth c T' L' 7 43 ∧ Fr n0 L' ∧ Keep h0 T'.heap [] ∧ Old Z n0 T'.heap ∧ Exa Z T'.heap b19 "[B" ∧ Exa Z T'.heap b29 "[B" ∧ Arv Z T'.heap b19 kc19 .byte len1 [] (defaultValue .byte) ∧ Arv Z T'.heap b29 kc29 .byte len2 [] (defaultValue .byte) ∧ own_B Z T'.heap b40 al ts kt (([0, 0, 0, 0, 0, 0, 0, 0, 0, 0, 0, 0, 0, 0, 0, 0] : List Int64).set 0 ev0) bt' ∧ own_AL Z T'.heap al (.ref edx) 1 (0 + 1) ∧ own_ED Z T'.heap edx ∧ T56.heap.size ≤ edx ∧ ∀ t, Steps p.tables e below (T'.setTop (mkF m 122 #[.val (.int p1), .val (.long q2), .second, .val (.long q3), .second, .val (.long q4), .second, .val (.long q5), .second, .val (.int f0), .val (.int f1), .val (.int f2), .val (.long u0), .second, .val (.long u1), .second, .val (.long u2), .second, .val (.ref b12), .val (.ref b19), .val (.ref b29), .val (.ref b40), .unset, .unset, .unset, .unset, .unset, .unset, .unset, .unset, .unset, .unset, .unset, .unset] [])) t → Steps p.tables e below (s₁.setTop (entryFrame m #[(.int p1), (.long q2), (.long q3), (.long q4), (.long q5)] maxLocals)) t := by
    by_cases cf : f0 = (0 : Int32)
    ·
      obtain ⟨cq70, kq70, q70a, q70b, q70c⟩ := isOf hZ rfl E66
      obtain ⟨_, _, ⟨T70, L70, kk70, n70⟩, -, X70, ⟨Lc70, hQ70, l70, y70, z70⟩, st70⟩ := X56.virtualBack hx (y := (⟨"com/example/lumenbus/lumenbus/log/Batch", "add", "([B)V"⟩ : MethodName)) (z := (⟨"com/example/lumenbus/lumenbus/log/Batch", "add", "([B)V"⟩ : MethodName)) hown (mvT hZ (hw _ (List.mem_of_getElem? (i := 40) rfl))) (mvT hZ (hw _ (List.mem_of_getElem? (i := 41) rfl))) (notFace_of_selects (args := #[]) (mvT hZ (hw _ (List.mem_of_getElem? (i := 43) rfl)))) (mvT hZ (hw _ (List.mem_of_getElem? (i := 43) rfl))) (mvT hZ (hw _ (List.mem_of_getElem? (i := 42) rfl))) (by decide) (backOf (W := 0) (rm_addN0 l Z a0 hw [] b40 b12 al ts kt ([0, 0, 0, 0, 0, 0, 0, 0, 0, 0, 0, 0, 0, 0, 0, 0] : List Int64) 0 0 w kw kc12 len0 [] (defaultValue .byte) T56.heap n0 (Nat.le_trans Z0 K57.1) Sb0 Sl0 E59 V60 O58 rfl g_b40 g_al g_ts n_b40_al n_b40_ts nat ne41 n_b12_al n_b12_ts S0 A0) hZ (hw _ (List.mem_of_getElem? (i := 44) rfl)) (hw _ (List.mem_of_getElem? (i := 4) rfl)) (by decide) (by decide)) q70a q70c (g := (mkF m 119 #[.val (.int p1), .val (.long q2), .second, .val (.long q3), .second, .val (.long q4), .second, .val (.long q5), .second, .val (.int f0), .val (.int f1), .val (.int f2), .val (.long u0), .second, .val (.long u1), .second, .val (.long u2), .second, .val (.ref b12), .val (.ref b19), .val (.ref b29), .val (.ref b40), .unset, .unset, .unset, .unset, .unset, .unset, .unset, .unset, .unset, .unset, .unset, .unset] [(.ref b12), (.ref b40)])) rfl (by rw [hml]; rfl) (Steps.refl _) (argsL := [(.ref b12)]) (rest := []) (lenOf pd___B_V rfl) rfl (by show 2 * 0 + _ ≤ _; exact Nat.le_of_eq rfl) (hb hby at_119) (fun _ _ => ⟨rfl, rfl, (by decide : 6 + 1 ≤ _), (by decide : 33 + 10 ≤ _)⟩)
      dsimp only [Pt.U, Pt.locs, Pt.cells, Pt.slots] at X70 l70 y70 z70 st70 hQ70
      subst l70 y70 z70
      obtain ⟨rfl, N70q, Kp69, ed69, bt69, ze69, Sb69, Sl69, De69⟩ := hQ70
      have N70 := Fr.app N56 N70q
      have K71 : Keep h0 T70.heap [] := K57.trans Kp69 (allS (Or.inr sz_b40) (allS (Or.inr sz_al) (allS (Or.inr sz_ts) all0)))
      have O72 : Old Z n0 T70.heap := O58.keep Kp69 (allS g_b40 (allS g_al (allS g_ts all0)))
      have E73 : Exa Z T70.heap b12 "[B" := E59.keep Kp69
      have V74 : Arv Z T70.heap b12 kc12 .byte len0 [] (defaultValue .byte) := V60.keep Kp69 (ninS ne41 (ninS n_b12_al (ninS n_b12_ts nin0)))
      have E75 : Exa Z T70.heap b19 "[B" := E61.keep Kp69
      have V76 : Arv Z T70.heap b19 kc19 .byte len1 [] (defaultValue .byte) := V62.keep Kp69 (ninS ne42 (ninS n_b19_al (ninS n_b19_ts nin0)))
      have E77 : Exa Z T70.heap b29 "[B" := E63.keep Kp69
      have V78 : Arv Z T70.heap b29 kc29 .byte len2 [] (defaultValue .byte) := V64.keep Kp69 (ninS ne43 (ninS n_b29_al (ninS n_b29_ts nin0)))
      have E79 : Exa Z T70.heap b40 "com/example/lumenbus/lumenbus/log/Batch" := E66.keep Kp69
      have k80 : ∀ t, Steps p.tables e below (T70.setTop (mkF m 122 #[.val (.int p1), .val (.long q2), .second, .val (.long q3), .second, .val (.long q4), .second, .val (.long q5), .second, .val (.int f0), .val (.int f1), .val (.int f2), .val (.long u0), .second, .val (.long u1), .second, .val (.long u2), .second, .val (.ref b12), .val (.ref b19), .val (.ref b29), .val (.ref b40), .unset, .unset, .unset, .unset, .unset, .unset, .unset, .unset, .unset, .unset, .unset, .unset] [])) t → Steps p.tables e below (s₁.setTop (entryFrame m #[(.int p1), (.long q2), (.long q3), (.long q4), (.long q5)] maxLocals)) t := fun t k => k67 t (by
        show Steps p.tables e below (T56.setTop (mkF m 100 #[.val (.int p1), .val (.long q2), .second, .val (.long q3), .second, .val (.long q4), .second, .val (.long q5), .second, .val (.int f0), .val (.int f1), .val (.int f2), .val (.long u0), .second, .val (.long u1), .second, .val (.long u2), .second, .val (.ref b12), .val (.ref b19), .val (.ref b29), .val (.ref b40), .unset, .unset, .unset, .unset, .unset, .unset, .unset, .unset, .unset, .unset, .unset, .unset] [(.int f0)])) _
        refine XS.ifYes X56.here hx rfl (pc0 := 100) (pc' := 115) rfl (hb hby at_100) rfl ((if0 _ _).trans (teq cf).1) (by decide) (by decide) ?_
        show Steps p.tables e below (T56.setTop (mkF m 115 #[.val (.int p1), .val (.long q2), .second, .val (.long q3), .second, .val (.long q4), .second, .val (.long q5), .second, .val (.int f0), .val (.int f1), .val (.int f2), .val (.long u0), .second, .val (.long u1), .second, .val (.long u2), .second, .val (.ref b12), .val (.ref b19), .val (.ref b29), .val (.ref b40), .unset, .unset, .unset, .unset, .unset, .unset, .unset, .unset, .unset, .unset, .unset, .unset] [])) _
        refine XS.aload X56.here hx rfl (hb hby at_115) rfl rfl ?_
        show Steps p.tables e below (T56.setTop (mkF m 117 #[.val (.int p1), .val (.long q2), .second, .val (.long q3), .second, .val (.long q4), .second, .val (.long q5), .second, .val (.int f0), .val (.int f1), .val (.int f2), .val (.long u0), .second, .val (.long u1), .second, .val (.long u2), .second, .val (.ref b12), .val (.ref b19), .val (.ref b29), .val (.ref b40), .unset, .unset, .unset, .unset, .unset, .unset, .unset, .unset, .unset, .unset, .unset, .unset] [(.ref b40)])) _
        refine XS.aload X56.here hx rfl (hb hby at_117) rfl rfl ?_
        show Steps p.tables e below (T56.setTop (mkF m 119 #[.val (.int p1), .val (.long q2), .second, .val (.long q3), .second, .val (.long q4), .second, .val (.long q5), .second, .val (.int f0), .val (.int f1), .val (.int f2), .val (.long u0), .second, .val (.long u1), .second, .val (.long u2), .second, .val (.ref b12), .val (.ref b19), .val (.ref b29), .val (.ref b40), .unset, .unset, .unset, .unset, .unset, .unset, .unset, .unset, .unset, .unset, .unset, .unset] [(.ref b12), (.ref b40)])) _
        refine st70.trans ?_
        exact k)
      have qe : ev0 = (-1 : Int64) := hev0.trans (if_pos cf)
      exact ⟨T70, _, ed69, bt69, X70, N70, K71, O72, E75, E77, V76, V78, by rw [qe]; exact Sb69, Sl69, De69, ze69, k80⟩
    ·
      obtain ⟨cq82, kq82, q82a, q82b, q82c⟩ := isOf hZ rfl E66
      obtain ⟨_, _, ⟨T82, L82, kk82, n82⟩, -, X82, ⟨Lc82, hQ82, l82, y82, z82⟩, st82⟩ := X56.virtualBack hx (y := (⟨"com/example/lumenbus/lumenbus/log/Batch", "add", "(J[B)V"⟩ : MethodName)) (z := (⟨"com/example/lumenbus/lumenbus/log/Batch", "add", "(J[B)V"⟩ : MethodName)) hown (mvT hZ (hw _ (List.mem_of_getElem? (i := 105) rfl))) (mvT hZ (hw _ (List.mem_of_getElem? (i := 106) rfl))) (notFace_of_selects (args := #[]) (mvT hZ (hw _ (List.mem_of_getElem? (i := 108) rfl)))) (mvT hZ (hw _ (List.mem_of_getElem? (i := 108) rfl))) (mvT hZ (hw _ (List.mem_of_getElem? (i := 107) rfl))) (by decide) (backOf (W := 0) (rm_addT0 l Z a0 hw [] b40 u0 b12 al ts kt ([0, 0, 0, 0, 0, 0, 0, 0, 0, 0, 0, 0, 0, 0, 0, 0] : List Int64) 0 0 w kw kc12 len0 [] (defaultValue .byte) T56.heap n0 (Nat.le_trans Z0 K57.1) Sb0 Sl0 E59 V60 O58 rfl g_b40 g_al g_ts n_b40_al n_b40_ts nat ne41 n_b12_al n_b12_ts S0 A0 hu0) hZ (hw _ (List.mem_of_getElem? (i := 109) rfl)) (hw _ (List.mem_of_getElem? (i := 4) rfl)) (by decide) (by decide)) q82a q82c (g := (mkF m 109 #[.val (.int p1), .val (.long q2), .second, .val (.long q3), .second, .val (.long q4), .second, .val (.long q5), .second, .val (.int f0), .val (.int f1), .val (.int f2), .val (.long u0), .second, .val (.long u1), .second, .val (.long u2), .second, .val (.ref b12), .val (.ref b19), .val (.ref b29), .val (.ref b40), .unset, .unset, .unset, .unset, .unset, .unset, .unset, .unset, .unset, .unset, .unset, .unset] [(.ref b12), (.long u0), (.ref b40)])) rfl (by rw [hml]; rfl) (Steps.refl _) (argsL := [(.long u0), (.ref b12)]) (rest := []) (lenOf pd__J_B_V rfl) rfl (by show 2 * 0 + _ ≤ _; exact Nat.le_of_eq rfl) (hb hby at_109) (fun _ _ => ⟨rfl, rfl, (by decide : 6 + 1 ≤ _), (by decide : 33 + 10 ≤ _)⟩)
      dsimp only [Pt.U, Pt.locs, Pt.cells, Pt.slots] at X82 l82 y82 z82 st82 hQ82
      subst l82 y82 z82
      obtain ⟨rfl, N82q, Kp81, ed81, bt81, ze81, Sb81, Sl81, De81⟩ := hQ82
      have N82 := Fr.app N56 N82q
      have K83 : Keep h0 T82.heap [] := K57.trans Kp81 (allS (Or.inr sz_b40) (allS (Or.inr sz_al) (allS (Or.inr sz_ts) all0)))
      have O84 : Old Z n0 T82.heap := O58.keep Kp81 (allS g_b40 (allS g_al (allS g_ts all0)))
      have E85 : Exa Z T82.heap b12 "[B" := E59.keep Kp81
      have V86 : Arv Z T82.heap b12 kc12 .byte len0 [] (defaultValue .byte) := V60.keep Kp81 (ninS ne41 (ninS n_b12_al (ninS n_b12_ts nin0)))
      have E87 : Exa Z T82.heap b19 "[B" := E61.keep Kp81
      have V88 : Arv Z T82.heap b19 kc19 .byte len1 [] (defaultValue .byte) := V62.keep Kp81 (ninS ne42 (ninS n_b19_al (ninS n_b19_ts nin0)))
      have E89 : Exa Z T82.heap b29 "[B" := E63.keep Kp81
      have V90 : Arv Z T82.heap b29 kc29 .byte len2 [] (defaultValue .byte) := V64.keep Kp81 (ninS ne43 (ninS n_b29_al (ninS n_b29_ts nin0)))
      have E91 : Exa Z T82.heap b40 "com/example/lumenbus/lumenbus/log/Batch" := E66.keep Kp81
      have k92 : ∀ t, Steps p.tables e below (T82.setTop (mkF m 122 #[.val (.int p1), .val (.long q2), .second, .val (.long q3), .second, .val (.long q4), .second, .val (.long q5), .second, .val (.int f0), .val (.int f1), .val (.int f2), .val (.long u0), .second, .val (.long u1), .second, .val (.long u2), .second, .val (.ref b12), .val (.ref b19), .val (.ref b29), .val (.ref b40), .unset, .unset, .unset, .unset, .unset, .unset, .unset, .unset, .unset, .unset, .unset, .unset] [])) t → Steps p.tables e below (s₁.setTop (entryFrame m #[(.int p1), (.long q2), (.long q3), (.long q4), (.long q5)] maxLocals)) t := fun t k => k67 t (by
        show Steps p.tables e below (T56.setTop (mkF m 100 #[.val (.int p1), .val (.long q2), .second, .val (.long q3), .second, .val (.long q4), .second, .val (.long q5), .second, .val (.int f0), .val (.int f1), .val (.int f2), .val (.long u0), .second, .val (.long u1), .second, .val (.long u2), .second, .val (.ref b12), .val (.ref b19), .val (.ref b29), .val (.ref b40), .unset, .unset, .unset, .unset, .unset, .unset, .unset, .unset, .unset, .unset, .unset, .unset] [(.int f0)])) _
        refine XS.ifNo X56.here hx rfl (hb hby at_100) rfl ((if0 _ _).trans (feq cf).1) ?_
        show Steps p.tables e below (T56.setTop (mkF m 103 #[.val (.int p1), .val (.long q2), .second, .val (.long q3), .second, .val (.long q4), .second, .val (.long q5), .second, .val (.int f0), .val (.int f1), .val (.int f2), .val (.long u0), .second, .val (.long u1), .second, .val (.long u2), .second, .val (.ref b12), .val (.ref b19), .val (.ref b29), .val (.ref b40), .unset, .unset, .unset, .unset, .unset, .unset, .unset, .unset, .unset, .unset, .unset, .unset] [])) _
        refine XS.aload X56.here hx rfl (hb hby at_103) rfl rfl ?_
        show Steps p.tables e below (T56.setTop (mkF m 105 #[.val (.int p1), .val (.long q2), .second, .val (.long q3), .second, .val (.long q4), .second, .val (.long q5), .second, .val (.int f0), .val (.int f1), .val (.int f2), .val (.long u0), .second, .val (.long u1), .second, .val (.long u2), .second, .val (.ref b12), .val (.ref b19), .val (.ref b29), .val (.ref b40), .unset, .unset, .unset, .unset, .unset, .unset, .unset, .unset, .unset, .unset, .unset, .unset] [(.ref b40)])) _
        refine XS.lload X56.here hx rfl (hb hby at_105) rfl ?_
        show Steps p.tables e below (T56.setTop (mkF m 107 #[.val (.int p1), .val (.long q2), .second, .val (.long q3), .second, .val (.long q4), .second, .val (.long q5), .second, .val (.int f0), .val (.int f1), .val (.int f2), .val (.long u0), .second, .val (.long u1), .second, .val (.long u2), .second, .val (.ref b12), .val (.ref b19), .val (.ref b29), .val (.ref b40), .unset, .unset, .unset, .unset, .unset, .unset, .unset, .unset, .unset, .unset, .unset, .unset] [(.long u0), (.ref b40)])) _
        refine XS.aload X56.here hx rfl (hb hby at_107) rfl rfl ?_
        show Steps p.tables e below (T56.setTop (mkF m 109 #[.val (.int p1), .val (.long q2), .second, .val (.long q3), .second, .val (.long q4), .second, .val (.long q5), .second, .val (.int f0), .val (.int f1), .val (.int f2), .val (.long u0), .second, .val (.long u1), .second, .val (.long u2), .second, .val (.ref b12), .val (.ref b19), .val (.ref b29), .val (.ref b40), .unset, .unset, .unset, .unset, .unset, .unset, .unset, .unset, .unset, .unset, .unset, .unset] [(.ref b12), (.long u0), (.ref b40)])) _
        refine st82.trans ?_
        show Steps p.tables e below (T82.setTop (mkF m 112 #[.val (.int p1), .val (.long q2), .second, .val (.long q3), .second, .val (.long q4), .second, .val (.long q5), .second, .val (.int f0), .val (.int f1), .val (.int f2), .val (.long u0), .second, .val (.long u1), .second, .val (.long u2), .second, .val (.ref b12), .val (.ref b19), .val (.ref b29), .val (.ref b40), .unset, .unset, .unset, .unset, .unset, .unset, .unset, .unset, .unset, .unset, .unset, .unset] [])) _
        refine XS.goto X82.here hx rfl (pc0 := 112) (pc' := 122) rfl (hb hby at_112) (by decide) (by decide) ?_
        exact k)
      have qe : ev0 = u0 := hev0.trans (if_neg cf)
      exact ⟨T82, _, ed81, bt81, X82, N82, K83, O84, E87, E89, V88, V90, by rw [qe]; exact Sb81, Sl81, De81, ze81, k92⟩
  have sz_edx : h0.size ≤ edx := Nat.le_trans K57.1 J68_10
  have g_edx : n0 ≤ edx := Nat.le_trans Z0 sz_edx
  have n_b40_edx : b40 ≠ edx := Nat.ne_of_lt (Nat.lt_of_lt_of_le E66.lt J68_10)
  have n_b19_edx : b19 ≠ edx := Nat.ne_of_lt (Nat.lt_of_lt_of_le E61.lt J68_10)
  have n_b29_edx : b29 ≠ edx := Nat.ne_of_lt (Nat.lt_of_lt_of_le E63.lt J68_10)
  have n_al_edx : al ≠ edx := Nat.ne_of_lt (Nat.lt_of_lt_of_le Sl0.1.lt J68_10)
  have n_ts_edx : ts ≠ edx := Nat.ne_of_lt (Nat.lt_of_lt_of_le Sb0.2.2.2.2.lt J68_10)
  have E93 : Exa Z T68.heap b40 "com/example/lumenbus/lumenbus/log/Batch" := J68_7.1
  have lT0 : (([0, 0, 0, 0, 0, 0, 0, 0, 0, 0, 0, 0, 0, 0, 0, 0] : List Int64).set 0 ev0).length = 16 := by rw [List.length_set]; rfl
  have k94 : ∀ t, Steps p.tables e below (T68.setTop (mkF m 124 #[.val (.int p1), .val (.long q2), .second, .val (.long q3), .second, .val (.long q4), .second, .val (.long q5), .second, .val (.int f0), .val (.int f1), .val (.int f2), .val (.long u0), .second, .val (.long u1), .second, .val (.long u2), .second, .val (.ref b12), .val (.ref b19), .val (.ref b29), .val (.ref b40), .unset, .unset, .unset, .unset, .unset, .unset, .unset, .unset, .unset, .unset, .unset, .unset] [(.int f1)])) t → Steps p.tables e below (s₁.setTop (entryFrame m #[(.int p1), (.long q2), (.long q3), (.long q4), (.long q5)] maxLocals)) t := fun t k => k68 t (by
    show Steps p.tables e below (T68.setTop (mkF m 122 #[.val (.int p1), .val (.long q2), .second, .val (.long q3), .second, .val (.long q4), .second, .val (.long q5), .second, .val (.int f0), .val (.int f1), .val (.int f2), .val (.long u0), .second, .val (.long u1), .second, .val (.long u2), .second, .val (.ref b12), .val (.ref b19), .val (.ref b29), .val (.ref b40), .unset, .unset, .unset, .unset, .unset, .unset, .unset, .unset, .unset, .unset, .unset, .unset] [])) _
    refine XS.iload X68.here hx rfl (hb hby at_122) rfl ?_
    exact k)
  obtain ⟨ev1, hev1⟩ : ∃ z : Int64, z = if f1 = (0 : Int32) then (-1 : Int64) else u1 := ⟨_, rfl⟩
  obtain ⟨T95, L95, bt2, X95, J95_0, J95_1, J95_2, J95_3, J95_4, J95_5, J95_6, J95_7, k95⟩ : ∃ (T' : State) (L' : List Loc) (bt' : Int64), Stand p l e room_1 s m #[(.int p1), (.long q2), (.long q3), (.long q4), (.long q5)] below meth c T' L' 7 43 ∧ Fr n0 L' ∧ Keep h0 T'.heap [] ∧ Old Z n0 T'.heap ∧ Exa Z T'.heap b29 "[B" ∧ Arv Z T'.heap b29 kc29 .byte len2 [] (defaultValue .byte) ∧ own_B Z T'.heap b40 al ts kt ((([0, 0, 0, 0, 0, 0, 0, 0, 0, 0, 0, 0, 0, 0, 0, 0] : List Int64).set 0 ev0).set 1 ev1) bt' ∧ own_AL Z T'.heap al (.ref edx) 2 ((0 + 1) + 1) ∧ own_ED Z T'.heap edx ∧ ∀ t, Steps p.tables e below (T'.setTop (mkF m 146 #[.val (.int p1), .val (.long q2), .second, .val (.long q3), .second, .val (.long q4), .second, .val (.long q5), .second, .val (.int f0), .val (.int f1), .val (.int f2), .val (.long u0), .second, .val (.long u1), .second, .val (.long u2), .second, .val (.ref b12), .val (.ref b19), .val (.ref b29), .val (.ref b40), .unset, .unset, .unset, .unset, .unset, .unset, .unset, .unset, .unset, .unset, .unset, .unset] [])) t → Steps p.tables e below (s₁.setTop (entryFrame m #[(.int p1), (.long q2), (.long q3), (.long q4), (.long q5)] maxLocals)) t := by
    by_cases cf : f1 = (0 : Int32)
    ·
      obtain ⟨cq97, kq97, q97a, q97b, q97c⟩ := isOf hZ rfl E93
      obtain ⟨_, _, ⟨T97, L97, kk97, n97⟩, -, X97, ⟨Lc97, hQ97, l97, y97, z97⟩, st97⟩ := X68.virtualBack hx (y := (⟨"com/example/lumenbus/lumenbus/log/Batch", "add", "([B)V"⟩ : MethodName)) (z := (⟨"com/example/lumenbus/lumenbus/log/Batch", "add", "([B)V"⟩ : MethodName)) hown (mvT hZ (hw _ (List.mem_of_getElem? (i := 40) rfl))) (mvT hZ (hw _ (List.mem_of_getElem? (i := 41) rfl))) (notFace_of_selects (args := #[]) (mvT hZ (hw _ (List.mem_of_getElem? (i := 43) rfl)))) (mvT hZ (hw _ (List.mem_of_getElem? (i := 43) rfl))) (mvT hZ (hw _ (List.mem_of_getElem? (i := 42) rfl))) (by decide) (backOf (W := 0) (rm_addN1 l Z a0 hw [] b40 b19 al ts kt (([0, 0, 0, 0, 0, 0, 0, 0, 0, 0, 0, 0, 0, 0, 0, 0] : List Int64).set 0 ev0) bt1 (0 + 1) edx kc19 len1 [] (defaultValue .byte) T68.heap n0 (Nat.le_trans Z0 J68_1.1) J68_7 J68_8 J68_3 J68_5 J68_2 lT0 g_b40 g_al g_ts n_b40_al n_b40_ts nat ne42 n_b19_al n_b19_ts J68_9 g_edx n_b40_edx n_al_edx n_ts_edx n_b19_edx) hZ (hw _ (List.mem_of_getElem? (i := 44) rfl)) (hw _ (List.mem_of_getElem? (i := 4) rfl)) (by decide) (by decide)) q97a q97c (g := (mkF m 143 #[.val (.int p1), .val (.long q2), .second, .val (.long q3), .second, .val (.long q4), .second, .val (.long q5), .second, .val (.int f0), .val (.int f1), .val (.int f2), .val (.long u0), .second, .val (.long u1), .second, .val (.long u2), .second, .val (.ref b12), .val (.ref b19), .val (.ref b29), .val (.ref b40), .unset, .unset, .unset, .unset, .unset, .unset, .unset, .unset, .unset, .unset, .unset, .unset] [(.ref b19), (.ref b40)])) rfl (by rw [hml]; rfl) (Steps.refl _) (argsL := [(.ref b19)]) (rest := []) (lenOf pd___B_V rfl) rfl (by show 2 * 0 + _ ≤ _; exact Nat.le_of_eq rfl) (hb hby at_143) (fun _ _ => ⟨rfl, rfl, (by decide : 7 + 0 ≤ _), (by decide : 43 + 0 ≤ _)⟩)
      dsimp only [Pt.U, Pt.locs, Pt.cells, Pt.slots] at X97 l97 y97 z97 st97 hQ97
      subst l97 y97 z97
      obtain ⟨rfl, N97q, Kp96, bt96, Sb96, Sl96, De96⟩ := hQ97
      have N97 := Fr.app J68_0 N97q
      have K98 : Keep h0 T97.heap [] := J68_1.trans Kp96 (allS (Or.inr sz_b40) (allS (Or.inr sz_al) (allS (Or.inr sz_ts) (allS (Or.inr sz_edx) all0))))
      have O99 : Old Z n0 T97.heap := J68_2.keep Kp96 (allS g_b40 (allS g_al (allS g_ts (allS g_edx all0))))
      have E100 : Exa Z T97.heap b19 "[B" := J68_3.keep Kp96
      have E101 : Exa Z T97.heap b29 "[B" := J68_4.keep Kp96
      have V102 : Arv Z T97.heap b19 kc19 .byte len1 [] (defaultValue .byte) := J68_5.keep Kp96 (ninS ne42 (ninS n_b19_al (ninS n_b19_ts (ninS n_b19_edx nin0))))
      have V103 : Arv Z T97.heap b29 kc29 .byte len2 [] (defaultValue .byte) := J68_6.keep Kp96 (ninS ne43 (ninS n_b29_al (ninS n_b29_ts (ninS n_b29_edx nin0))))
      have E104 : Exa Z T97.heap b40 "com/example/lumenbus/lumenbus/log/Batch" := E93.keep Kp96
      have k105 : ∀ t, Steps p.tables e below (T97.setTop (mkF m 146 #[.val (.int p1), .val (.long q2), .second, .val (.long q3), .second, .val (.long q4), .second, .val (.long q5), .second, .val (.int f0), .val (.int f1), .val (.int f2), .val (.long u0), .second, .val (.long u1), .second, .val (.long u2), .second, .val (.ref b12), .val (.ref b19), .val (.ref b29), .val (.ref b40), .unset, .unset, .unset, .unset, .unset, .unset, .unset, .unset, .unset, .unset, .unset, .unset] [])) t → Steps p.tables e below (s₁.setTop (entryFrame m #[(.int p1), (.long q2), (.long q3), (.long q4), (.long q5)] maxLocals)) t := fun t k => k94 t (by
        show Steps p.tables e below (T68.setTop (mkF m 124 #[.val (.int p1), .val (.long q2), .second, .val (.long q3), .second, .val (.long q4), .second, .val (.long q5), .second, .val (.int f0), .val (.int f1), .val (.int f2), .val (.long u0), .second, .val (.long u1), .second, .val (.long u2), .second, .val (.ref b12), .val (.ref b19), .val (.ref b29), .val (.ref b40), .unset, .unset, .unset, .unset, .unset, .unset, .unset, .unset, .unset, .unset, .unset, .unset] [(.int f1)])) _
        refine XS.ifYes X68.here hx rfl (pc0 := 124) (pc' := 139) rfl (hb hby at_124) rfl ((if0 _ _).trans (teq cf).1) (by decide) (by decide) ?_
        show Steps p.tables e below (T68.setTop (mkF m 139 #[.val (.int p1), .val (.long q2), .second, .val (.long q3), .second, .val (.long q4), .second, .val (.long q5), .second, .val (.int f0), .val (.int f1), .val (.int f2), .val (.long u0), .second, .val (.long u1), .second, .val (.long u2), .second, .val (.ref b12), .val (.ref b19), .val (.ref b29), .val (.ref b40), .unset, .unset, .unset, .unset, .unset, .unset, .unset, .unset, .unset, .unset, .unset, .unset] [])) _
        refine XS.aload X68.here hx rfl (hb hby at_139) rfl rfl ?_
        show Steps p.tables e below (T68.setTop (mkF m 141 #[.val (.int p1), .val (.long q2), .second, .val (.long q3), .second, .val (.long q4), .second, .val (.long q5), .second, .val (.int f0), .val (.int f1), .val (.int f2), .val (.long u0), .second, .val (.long u1), .second, .val (.long u2), .second, .val (.ref b12), .val (.ref b19), .val (.ref b29), .val (.ref b40), .unset, .unset, .unset, .unset, .unset, .unset, .unset, .unset, .unset, .unset, .unset, .unset] [(.ref b40)])) _
        refine XS.aload X68.here hx rfl (hb hby at_141) rfl rfl ?_
        show Steps p.tables e below (T68.setTop (mkF m 143 #[.val (.int p1), .val (.long q2), .second, .val (.long q3), .second, .val (.long q4), .second, .val (.long q5), .second, .val (.int f0), .val (.int f1), .val (.int f2), .val (.long u0), .second, .val (.long u1), .second, .val (.long u2), .second, .val (.ref b12), .val (.ref b19), .val (.ref b29), .val (.ref b40), .unset, .unset, .unset, .unset, .unset, .unset, .unset, .unset, .unset, .unset, .unset, .unset] [(.ref b19), (.ref b40)])) _
        refine st97.trans ?_
        exact k)
      have qe : ev1 = (-1 : Int64) := hev1.trans (if_pos cf)
      exact ⟨T97, _, bt96, X97, N97, K98, O99, E101, V103, by rw [qe]; exact Sb96, Sl96, De96, k105⟩
    ·
      obtain ⟨cq107, kq107, q107a, q107b, q107c⟩ := isOf hZ rfl E93
      obtain ⟨_, _, ⟨T107, L107, kk107, n107⟩, -, X107, ⟨Lc107, hQ107, l107, y107, z107⟩, st107⟩ := X68.virtualBack hx (y := (⟨"com/example/lumenbus/lumenbus/log/Batch", "add", "(J[B)V"⟩ : MethodName)) (z := (⟨"com/example/lumenbus/lumenbus/log/Batch", "add", "(J[B)V"⟩ : MethodName)) hown (mvT hZ (hw _ (List.mem_of_getElem? (i := 105) rfl))) (mvT hZ (hw _ (List.mem_of_getElem? (i := 106) rfl))) (notFace_of_selects (args := #[]) (mvT hZ (hw _ (List.mem_of_getElem? (i := 108) rfl)))) (mvT hZ (hw _ (List.mem_of_getElem? (i := 108) rfl))) (mvT hZ (hw _ (List.mem_of_getElem? (i := 107) rfl))) (by decide) (backOf (W := 0) (rm_addT1 l Z a0 hw [] b40 u1 b19 al ts kt (([0, 0, 0, 0, 0, 0, 0, 0, 0, 0, 0, 0, 0, 0, 0, 0] : List Int64).set 0 ev0) bt1 (0 + 1) edx kc19 len1 [] (defaultValue .byte) T68.heap n0 (Nat.le_trans Z0 J68_1.1) J68_7 J68_8 J68_3 J68_5 J68_2 lT0 g_b40 g_al g_ts n_b40_al n_b40_ts nat ne42 n_b19_al n_b19_ts J68_9 g_edx n_b40_edx n_al_edx n_ts_edx n_b19_edx hu1) hZ (hw _ (List.mem_of_getElem? (i := 109) rfl)) (hw _ (List.mem_of_getElem? (i := 4) rfl)) (by decide) (by decide)) q107a q107c (g := (mkF m 133 #[.val (.int p1), .val (.long q2), .second, .val (.long q3), .second, .val (.long q4), .second, .val (.long q5), .second, .val (.int f0), .val (.int f1), .val (.int f2), .val (.long u0), .second, .val (.long u1), .second, .val (.long u2), .second, .val (.ref b12), .val (.ref b19), .val (.ref b29), .val (.ref b40), .unset, .unset, .unset, .unset, .unset, .unset, .unset, .unset, .unset, .unset, .unset, .unset] [(.ref b19), (.long u1), (.ref b40)])) rfl (by rw [hml]; rfl) (Steps.refl _) (argsL := [(.long u1), (.ref b19)]) (rest := []) (lenOf pd__J_B_V rfl) rfl (by show 2 * 0 + _ ≤ _; exact Nat.le_of_eq rfl) (hb hby at_133) (fun _ _ => ⟨rfl, rfl, (by decide : 7 + 0 ≤ _), (by decide : 43 + 0 ≤ _)⟩)
      dsimp only [Pt.U, Pt.locs, Pt.cells, Pt.slots] at X107 l107 y107 z107 st107 hQ107
      subst l107 y107 z107
      obtain ⟨rfl, N107q, Kp106, bt106, Sb106, Sl106, De106⟩ := hQ107
      have N107 := Fr.app J68_0 N107q
      have K108 : Keep h0 T107.heap [] := J68_1.trans Kp106 (allS (Or.inr sz_b40) (allS (Or.inr sz_al) (allS (Or.inr sz_ts) (allS (Or.inr sz_edx) all0))))
      have O109 : Old Z n0 T107.heap := J68_2.keep Kp106 (allS g_b40 (allS g_al (allS g_ts (allS g_edx all0))))
      have E110 : Exa Z T107.heap b19 "[B" := J68_3.keep Kp106
      have E111 : Exa Z T107.heap b29 "[B" := J68_4.keep Kp106
      have V112 : Arv Z T107.heap b19 kc19 .byte len1 [] (defaultValue .byte) := J68_5.keep Kp106 (ninS ne42 (ninS n_b19_al (ninS n_b19_ts (ninS n_b19_edx nin0))))
      have V113 : Arv Z T107.heap b29 kc29 .byte len2 [] (defaultValue .byte) := J68_6.keep Kp106 (ninS ne43 (ninS n_b29_al (ninS n_b29_ts (ninS n_b29_edx nin0))))
      have E114 : Exa Z T107.heap b40 "com/example/lumenbus/lumenbus/log/Batch" := E93.keep Kp106
      have k115 : ∀ t, Steps p.tables e below (T107.setTop (mkF m 146 #[.val (.int p1), .val (.long q2), .second, .val (.long q3), .second, .val (.long q4), .second, .val (.long q5), .second, .val (.int f0), .val (.int f1), .val (.int f2), .val (.long u0), .second, .val (.long u1), .second, .val (.long u2), .second, .val (.ref b12), .val (.ref b19), .val (.ref b29), .val (.ref b40), .unset, .unset, .unset, .unset, .unset, .unset, .unset, .unset, .unset, .unset, .unset, .unset] [])) t → Steps p.tables e below (s₁.setTop (entryFrame m #[(.int p1), (.long q2), (.long q3), (.long q4), (.long q5)] maxLocals)) t := fun t k => k94 t (by
        show Steps p.tables e below (T68.setTop (mkF m 124 #[.val (.int p1), .val (.long q2), .second, .val (.long q3), .second, .val (.long q4), .second, .val (.long q5), .second, .val (.int f0), .val (.int f1), .val (.int f2), .val (.long u0), .second, .val (.long u1), .second, .val (.long u2), .second, .val (.ref b12), .val (.ref b19), .val (.ref b29), .val (.ref b40), .unset, .unset, .unset, .unset, .unset, .unset, .unset, .unset, .unset, .unset, .unset, .unset] [(.int f1)])) _
        refine XS.ifNo X68.here hx rfl (hb hby at_124) rfl ((if0 _ _).trans (feq cf).1) ?_
        show Steps p.tables e below (T68.setTop (mkF m 127 #[.val (.int p1), .val (.long q2), .second, .val (.long q3), .second, .val (.long q4), .second, .val (.long q5), .second, .val (.int f0), .val (.int f1), .val (.int f2), .val (.long u0), .second, .val (.long u1), .second, .val (.long u2), .second, .val (.ref b12), .val (.ref b19), .val (.ref b29), .val (.ref b40), .unset, .unset, .unset, .unset, .unset, .unset, .unset, .unset, .unset, .unset, .unset, .unset] [])) _
        refine XS.aload X68.here hx rfl (hb hby at_127) rfl rfl ?_
        show Steps p.tables e below (T68.setTop (mkF m 129 #[.val (.int p1), .val (.long q2), .second, .val (.long q3), .second, .val (.long q4), .second, .val (.long q5), .second, .val (.int f0), .val (.int f1), .val (.int f2), .val (.long u0), .second, .val (.long u1), .second, .val (.long u2), .second, .val (.ref b12), .val (.ref b19), .val (.ref b29), .val (.ref b40), .unset, .unset, .unset, .unset, .unset, .unset, .unset, .unset, .unset, .unset, .unset, .unset] [(.ref b40)])) _
        refine XS.lload X68.here hx rfl (hb hby at_129) rfl ?_
        show Steps p.tables e below (T68.setTop (mkF m 131 #[.val (.int p1), .val (.long q2), .second, .val (.long q3), .second, .val (.long q4), .second, .val (.long q5), .second, .val (.int f0), .val (.int f1), .val (.int f2), .val (.long u0), .second, .val (.long u1), .second, .val (.long u2), .second, .val (.ref b12), .val (.ref b19), .val (.ref b29), .val (.ref b40), .unset, .unset, .unset, .unset, .unset, .unset, .unset, .unset, .unset, .unset, .unset, .unset] [(.long u1), (.ref b40)])) _
        refine XS.aload X68.here hx rfl (hb hby at_131) rfl rfl ?_
        show Steps p.tables e below (T68.setTop (mkF m 133 #[.val (.int p1), .val (.long q2), .second, .val (.long q3), .second, .val (.long q4), .second, .val (.long q5), .second, .val (.int f0), .val (.int f1), .val (.int f2), .val (.long u0), .second, .val (.long u1), .second, .val (.long u2), .second, .val (.ref b12), .val (.ref b19), .val (.ref b29), .val (.ref b40), .unset, .unset, .unset, .unset, .unset, .unset, .unset, .unset, .unset, .unset, .unset, .unset] [(.ref b19), (.long u1), (.ref b40)])) _
        refine st107.trans ?_
        show Steps p.tables e below (T107.setTop (mkF m 136 #[.val (.int p1), .val (.long q2), .second, .val (.long q3), .second, .val (.long q4), .second, .val (.long q5), .second, .val (.int f0), .val (.int f1), .val (.int f2), .val (.long u0), .second, .val (.long u1), .second, .val (.long u2), .second, .val (.ref b12), .val (.ref b19), .val (.ref b29), .val (.ref b40), .unset, .unset, .unset, .unset, .unset, .unset, .unset, .unset, .unset, .unset, .unset, .unset] [])) _
        refine XS.goto X107.here hx rfl (pc0 := 136) (pc' := 146) rfl (hb hby at_136) (by decide) (by decide) ?_
        exact k)
      have qe : ev1 = u1 := hev1.trans (if_neg cf)
      exact ⟨T107, _, bt106, X107, N107, K108, O109, E111, V113, by rw [qe]; exact Sb106, Sl106, De106, k115⟩
  have E116 : Exa Z T95.heap b40 "com/example/lumenbus/lumenbus/log/Batch" := J95_5.1
  have lT1 : ((([0, 0, 0, 0, 0, 0, 0, 0, 0, 0, 0, 0, 0, 0, 0, 0] : List Int64).set 0 ev0).set 1 ev1).length = 16 := by rw [List.length_set]; exact lT0
  have k117 : ∀ t, Steps p.tables e below (T95.setTop (mkF m 148 #[.val (.int p1), .val (.long q2), .second, .val (.long q3), .second, .val (.long q4), .second, .val (.long q5), .second, .val (.int f0), .val (.int f1), .val (.int f2), .val (.long u0), .second, .val (.long u1), .second, .val (.long u2), .second, .val (.ref b12), .val (.ref b19), .val (.ref b29), .val (.ref b40), .unset, .unset, .unset, .unset, .unset, .unset, .unset, .unset, .unset, .unset, .unset, .unset] [(.int f2)])) t → Steps p.tables e below (s₁.setTop (entryFrame m #[(.int p1), (.long q2), (.long q3), (.long q4), (.long q5)] maxLocals)) t := fun t k => k95 t (by
    show Steps p.tables e below (T95.setTop (mkF m 146 #[.val (.int p1), .val (.long q2), .second, .val (.long q3), .second, .val (.long q4), .second, .val (.long q5), .second, .val (.int f0), .val (.int f1), .val (.int f2), .val (.long u0), .second, .val (.long u1), .second, .val (.long u2), .second, .val (.ref b12), .val (.ref b19), .val (.ref b29), .val (.ref b40), .unset, .unset, .unset, .unset, .unset, .unset, .unset, .unset, .unset, .unset, .unset, .unset] [])) _
    refine XS.iload X95.here hx rfl (hb hby at_146) rfl ?_
    exact k)
  obtain ⟨ev2, hev2⟩ : ∃ z : Int64, z = if f2 = (0 : Int32) then (-1 : Int64) else u2 := ⟨_, rfl⟩
  obtain ⟨T118, L118, bt3, X118, J118_0, J118_1, J118_2, J118_3, J118_4, J118_5, k118⟩ : ∃ (T' : State) (L' : List Loc) (bt' : Int64), Stand p l e room_1 s m #[(.int p1), (.long q2), (.long q3), (.long q4), (.long q5)] below meth c T' L' 7 43 ∧ Fr n0 L' ∧ Keep h0 T'.heap [] ∧ Old Z n0 T'.heap ∧ own_B Z T'.heap b40 al ts kt (((([0, 0, 0, 0, 0, 0, 0, 0, 0, 0, 0, 0, 0, 0, 0, 0] : List Int64).set 0 ev0).set 1 ev1).set 2 ev2) bt' ∧ own_AL Z T'.heap al (.ref edx) 3 (((0 + 1) + 1) + 1) ∧ own_ED Z T'.heap edx ∧ ∀ t, Steps p.tables e below (T'.setTop (mkF m 170 #[.val (.int p1), .val (.long q2), .second, .val (.long q3), .second, .val (.long q4), .second, .val (.long q5), .second, .val (.int f0), .val (.int f1), .val (.int f2), .val (.long u0), .second, .val (.long u1), .second, .val (.long u2), .second, .val (.ref b12), .val (.ref b19), .val (.ref b29), .val (.ref b40), .unset, .unset, .unset, .unset, .unset, .unset, .unset, .unset, .unset, .unset, .unset, .unset] [])) t → Steps p.tables e below (s₁.setTop (entryFrame m #[(.int p1), (.long q2), (.long q3), (.long q4), (.long q5)] maxLocals)) t := by
    by_cases cf : f2 = (0 : Int32)
    ·
      obtain ⟨cq120, kq120, q120a, q120b, q120c⟩ := isOf hZ rfl E116
      obtain ⟨_, _, ⟨T120, L120, kk120, n120⟩, -, X120, ⟨Lc120, hQ120, l120, y120, z120⟩, st120⟩ := X95.virtualBack hx (y := (⟨"com/example/lumenbus/lumenbus/log/Batch", "add", "([B)V"⟩ : MethodName)) (z := (⟨"com/example/lumenbus/lumenbus/log/Batch", "add", "([B)V"⟩ : MethodName)) hown (mvT hZ (hw _ (List.mem_of_getElem? (i := 40) rfl))) (mvT hZ (hw _ (List.mem_of_getElem? (i := 41) rfl))) (notFace_of_selects (args := #[]) (mvT hZ (hw _ (List.mem_of_getElem? (i := 43) rfl)))) (mvT hZ (hw _ (List.mem_of_getElem? (i := 43) rfl))) (mvT hZ (hw _ (List.mem_of_getElem? (i := 42) rfl))) (by decide) (backOf (W := 0) (rm_addN2 l Z a0 hw [] b40 b29 al ts kt ((([0, 0, 0, 0, 0, 0, 0, 0, 0, 0, 0, 0, 0, 0, 0, 0] : List Int64).set 0 ev0).set 1 ev1) bt2 ((0 + 1) + 1) edx kc29 len2 [] (defaultValue .byte) T95.heap n0 (Nat.le_trans Z0 J95_1.1) J95_5 J95_6 J95_3 J95_4 J95_2 lT1 g_b40 g_al g_ts n_b40_al n_b40_ts nat ne43 n_b29_al n_b29_ts J95_7 g_edx n_b40_edx n_al_edx n_ts_edx n_b29_edx) hZ (hw _ (List.mem_of_getElem? (i := 44) rfl)) (hw _ (List.mem_of_getElem? (i := 4) rfl)) (by decide) (by decide)) q120a q120c (g := (mkF m 167 #[.val (.int p1), .val (.long q2), .second, .val (.long q3), .second, .val (.long q4), .second, .val (.long q5), .second, .val (.int f0), .val (.int f1), .val (.int f2), .val (.long u0), .second, .val (.long u1), .second, .val (.long u2), .second, .val (.ref b12), .val (.ref b19), .val (.ref b29), .val (.ref b40), .unset, .unset, .unset, .unset, .unset, .unset, .unset, .unset, .unset, .unset, .unset, .unset] [(.ref b29), (.ref b40)])) rfl (by rw [hml]; rfl) (Steps.refl _) (argsL := [(.ref b29)]) (rest := []) (lenOf pd___B_V rfl) rfl (by show 2 * 0 + _ ≤ _; exact Nat.le_of_eq rfl) (hb hby at_167) (fun _ _ => ⟨rfl, rfl, (by decide : 7 + 0 ≤ _), (by decide : 43 + 0 ≤ _)⟩)
      dsimp only [Pt.U, Pt.locs, Pt.cells, Pt.slots] at X120 l120 y120 z120 st120 hQ120
      subst l120 y120 z120
      obtain ⟨rfl, N120q, Kp119, bt119, Sb119, Sl119, De119⟩ := hQ120
      have N120 := Fr.app J95_0 N120q
      have K121 : Keep h0 T120.heap [] := J95_1.trans Kp119 (allS (Or.inr sz_b40) (allS (Or.inr sz_al) (allS (Or.inr sz_ts) (allS (Or.inr sz_edx) all0))))
      have O122 : Old Z n0 T120.heap := J95_2.keep Kp119 (allS g_b40 (allS g_al (allS g_ts (allS g_edx all0))))
      have E123 : Exa Z T120.heap b29 "[B" := J95_3.keep Kp119
      have V124 : Arv Z T120.heap b29 kc29 .byte len2 [] (defaultValue .byte) := J95_4.keep Kp119 (ninS ne43 (ninS n_b29_al (ninS n_b29_ts (ninS n_b29_edx nin0))))
      have E125 : Exa Z T120.heap b40 "com/example/lumenbus/lumenbus/log/Batch" := E116.keep Kp119
      have k126 : ∀ t, Steps p.tables e below (T120.setTop (mkF m 170 #[.val (.int p1), .val (.long q2), .second, .val (.long q3), .second, .val (.long q4), .second, .val (.long q5), .second, .val (.int f0), .val (.int f1), .val (.int f2), .val (.long u0), .second, .val (.long u1), .second, .val (.long u2), .second, .val (.ref b12), .val (.ref b19), .val (.ref b29), .val (.ref b40), .unset, .unset, .unset, .unset, .unset, .unset, .unset, .unset, .unset, .unset, .unset, .unset] [])) t → Steps p.tables e below (s₁.setTop (entryFrame m #[(.int p1), (.long q2), (.long q3), (.long q4), (.long q5)] maxLocals)) t := fun t k => k117 t (by
        show Steps p.tables e below (T95.setTop (mkF m 148 #[.val (.int p1), .val (.long q2), .second, .val (.long q3), .second, .val (.long q4), .second, .val (.long q5), .second, .val (.int f0), .val (.int f1), .val (.int f2), .val (.long u0), .second, .val (.long u1), .second, .val (.long u2), .second, .val (.ref b12), .val (.ref b19), .val (.ref b29), .val (.ref b40), .unset, .unset, .unset, .unset, .unset, .unset, .unset, .unset, .unset, .unset, .unset, .unset] [(.int f2)])) _
        refine XS.ifYes X95.here hx rfl (pc0 := 148) (pc' := 163) rfl (hb hby at_148) rfl ((if0 _ _).trans (teq cf).1) (by decide) (by decide) ?_
        show Steps p.tables e below (T95.setTop (mkF m 163 #[.val (.int p1), .val (.long q2), .second, .val (.long q3), .second, .val (.long q4), .second, .val (.long q5), .second, .val (.int f0), .val (.int f1), .val (.int f2), .val (.long u0), .second, .val (.long u1), .second, .val (.long u2), .second, .val (.ref b12), .val (.ref b19), .val (.ref b29), .val (.ref b40), .unset, .unset, .unset, .unset, .unset, .unset, .unset, .unset, .unset, .unset, .unset, .unset] [])) _
        refine XS.aload X95.here hx rfl (hb hby at_163) rfl rfl ?_
        show Steps p.tables e below (T95.setTop (mkF m 165 #[.val (.int p1), .val (.long q2), .second, .val (.long q3), .second, .val (.long q4), .second, .val (.long q5), .second, .val (.int f0), .val (.int f1), .val (.int f2), .val (.long u0), .second, .val (.long u1), .second, .val (.long u2), .second, .val (.ref b12), .val (.ref b19), .val (.ref b29), .val (.ref b40), .unset, .unset, .unset, .unset, .unset, .unset, .unset, .unset, .unset, .unset, .unset, .unset] [(.ref b40)])) _
        refine XS.aload X95.here hx rfl (hb hby at_165) rfl rfl ?_
        show Steps p.tables e below (T95.setTop (mkF m 167 #[.val (.int p1), .val (.long q2), .second, .val (.long q3), .second, .val (.long q4), .second, .val (.long q5), .second, .val (.int f0), .val (.int f1), .val (.int f2), .val (.long u0), .second, .val (.long u1), .second, .val (.long u2), .second, .val (.ref b12), .val (.ref b19), .val (.ref b29), .val (.ref b40), .unset, .unset, .unset, .unset, .unset, .unset, .unset, .unset, .unset, .unset, .unset, .unset] [(.ref b29), (.ref b40)])) _
        refine st120.trans ?_
        exact k)
      have qe : ev2 = (-1 : Int64) := hev2.trans (if_pos cf)
      exact ⟨T120, _, bt119, X120, N120, K121, O122, by rw [qe]; exact Sb119, Sl119, De119, k126⟩
    ·
      obtain ⟨cq128, kq128, q128a, q128b, q128c⟩ := isOf hZ rfl E116
      obtain ⟨_, _, ⟨T128, L128, kk128, n128⟩, -, X128, ⟨Lc128, hQ128, l128, y128, z128⟩, st128⟩ := X95.virtualBack hx (y := (⟨"com/example/lumenbus/lumenbus/log/Batch", "add", "(J[B)V"⟩ : MethodName)) (z := (⟨"com/example/lumenbus/lumenbus/log/Batch", "add", "(J[B)V"⟩ : MethodName)) hown (mvT hZ (hw _ (List.mem_of_getElem? (i := 105) rfl))) (mvT hZ (hw _ (List.mem_of_getElem? (i := 106) rfl))) (notFace_of_selects (args := #[]) (mvT hZ (hw _ (List.mem_of_getElem? (i := 108) rfl)))) (mvT hZ (hw _ (List.mem_of_getElem? (i := 108) rfl))) (mvT hZ (hw _ (List.mem_of_getElem? (i := 107) rfl))) (by decide) (backOf (W := 0) (rm_addT2 l Z a0 hw [] b40 u2 b29 al ts kt ((([0, 0, 0, 0, 0, 0, 0, 0, 0, 0, 0, 0, 0, 0, 0, 0] : List Int64).set 0 ev0).set 1 ev1) bt2 ((0 + 1) + 1) edx kc29 len2 [] (defaultValue .byte) T95.heap n0 (Nat.le_trans Z0 J95_1.1) J95_5 J95_6 J95_3 J95_4 J95_2 lT1 g_b40 g_al g_ts n_b40_al n_b40_ts nat ne43 n_b29_al n_b29_ts J95_7 g_edx n_b40_edx n_al_edx n_ts_edx n_b29_edx hu2) hZ (hw _ (List.mem_of_getElem? (i := 109) rfl)) (hw _ (List.mem_of_getElem? (i := 4) rfl)) (by decide) (by decide)) q128a q128c (g := (mkF m 157 #[.val (.int p1), .val (.long q2), .second, .val (.long q3), .second, .val (.long q4), .second, .val (.long q5), .second, .val (.int f0), .val (.int f1), .val (.int f2), .val (.long u0), .second, .val (.long u1), .second, .val (.long u2), .second, .val (.ref b12), .val (.ref b19), .val (.ref b29), .val (.ref b40), .unset, .unset, .unset, .unset, .unset, .unset, .unset, .unset, .unset, .unset, .unset, .unset] [(.ref b29), (.long u2), (.ref b40)])) rfl (by rw [hml]; rfl) (Steps.refl _) (argsL := [(.long u2), (.ref b29)]) (rest := []) (lenOf pd__J_B_V rfl) rfl (by show 2 * 0 + _ ≤ _; exact Nat.le_of_eq rfl) (hb hby at_157) (fun _ _ => ⟨rfl, rfl, (by decide : 7 + 0 ≤ _), (by decide : 43 + 0 ≤ _)⟩)
      dsimp only [Pt.U, Pt.locs, Pt.cells, Pt.slots] at X128 l128 y128 z128 st128 hQ128
      subst l128 y128 z128
      obtain ⟨rfl, N128q, Kp127, bt127, Sb127, Sl127, De127⟩ := hQ128
      have N128 := Fr.app J95_0 N128q
      have K129 : Keep h0 T128.heap [] := J95_1.trans Kp127 (allS (Or.inr sz_b40) (allS (Or.inr sz_al) (allS (Or.inr sz_ts) (allS (Or.inr sz_edx) all0))))
      have O130 : Old Z n0 T128.heap := J95_2.keep Kp127 (allS g_b40 (allS g_al (allS g_ts (allS g_edx all0))))
      have E131 : Exa Z T128.heap b29 "[B" := J95_3.keep Kp127
      have V132 : Arv Z T128.heap b29 kc29 .byte len2 [] (defaultValue .byte) := J95_4.keep Kp127 (ninS ne43 (ninS n_b29_al (ninS n_b29_ts (ninS n_b29_edx nin0))))
      have E133 : Exa Z T128.heap b40 "com/example/lumenbus/lumenbus/log/Batch" := E116.keep Kp127
      have k134 : ∀ t, Steps p.tables e below (T128.setTop (mkF m 170 #[.val (.int p1), .val (.long q2), .second, .val (.long q3), .second, .val (.long q4), .second, .val (.long q5), .second, .val (.int f0), .val (.int f1), .val (.int f2), .val (.long u0), .second, .val (.long u1), .second, .val (.long u2), .second, .val (.ref b12), .val (.ref b19), .val (.ref b29), .val (.ref b40), .unset, .unset, .unset, .unset, .unset, .unset, .unset, .unset, .unset, .unset, .unset, .unset] [])) t → Steps p.tables e below (s₁.setTop (entryFrame m #[(.int p1), (.long q2), (.long q3), (.long q4), (.long q5)] maxLocals)) t := fun t k => k117 t (by
        show Steps p.tables e below (T95.setTop (mkF m 148 #[.val (.int p1), .val (.long q2), .second, .val (.long q3), .second, .val (.long q4), .second, .val (.long q5), .second, .val (.int f0), .val (.int f1), .val (.int f2), .val (.long u0), .second, .val (.long u1), .second, .val (.long u2), .second, .val (.ref b12), .val (.ref b19), .val (.ref b29), .val (.ref b40), .unset, .unset, .unset, .unset, .unset, .unset, .unset, .unset, .unset, .unset, .unset, .unset] [(.int f2)])) _
        refine XS.ifNo X95.here hx rfl (hb hby at_148) rfl ((if0 _ _).trans (feq cf).1) ?_
        show Steps p.tables e below (T95.setTop (mkF m 151 #[.val (.int p1), .val (.long q2), .second, .val (.long q3), .second, .val (.long q4), .second, .val (.long q5), .second, .val (.int f0), .val (.int f1), .val (.int f2), .val (.long u0), .second, .val (.long u1), .second, .val (.long u2), .second, .val (.ref b12), .val (.ref b19), .val (.ref b29), .val (.ref b40), .unset, .unset, .unset, .unset, .unset, .unset, .unset, .unset, .unset, .unset, .unset, .unset] [])) _
        refine XS.aload X95.here hx rfl (hb hby at_151) rfl rfl ?_
        show Steps p.tables e below (T95.setTop (mkF m 153 #[.val (.int p1), .val (.long q2), .second, .val (.long q3), .second, .val (.long q4), .second, .val (.long q5), .second, .val (.int f0), .val (.int f1), .val (.int f2), .val (.long u0), .second, .val (.long u1), .second, .val (.long u2), .second, .val (.ref b12), .val (.ref b19), .val (.ref b29), .val (.ref b40), .unset, .unset, .unset, .unset, .unset, .unset, .unset, .unset, .unset, .unset, .unset, .unset] [(.ref b40)])) _
        refine XS.lload X95.here hx rfl (hb hby at_153) rfl ?_
        show Steps p.tables e below (T95.setTop (mkF m 155 #[.val (.int p1), .val (.long q2), .second, .val (.long q3), .second, .val (.long q4), .second, .val (.long q5), .second, .val (.int f0), .val (.int f1), .val (.int f2), .val (.long u0), .second, .val (.long u1), .second, .val (.long u2), .second, .val (.ref b12), .val (.ref b19), .val (.ref b29), .val (.ref b40), .unset, .unset, .unset, .unset, .unset, .unset, .unset, .unset, .unset, .unset, .unset, .unset] [(.long u2), (.ref b40)])) _
        refine XS.aload X95.here hx rfl (hb hby at_155) rfl rfl ?_
        show Steps p.tables e below (T95.setTop (mkF m 157 #[.val (.int p1), .val (.long q2), .second, .val (.long q3), .second, .val (.long q4), .second, .val (.long q5), .second, .val (.int f0), .val (.int f1), .val (.int f2), .val (.long u0), .second, .val (.long u1), .second, .val (.long u2), .second, .val (.ref b12), .val (.ref b19), .val (.ref b29), .val (.ref b40), .unset, .unset, .unset, .unset, .unset, .unset, .unset, .unset, .unset, .unset, .unset, .unset] [(.ref b29), (.long u2), (.ref b40)])) _
        refine st128.trans ?_
        show Steps p.tables e below (T128.setTop (mkF m 160 #[.val (.int p1), .val (.long q2), .second, .val (.long q3), .second, .val (.long q4), .second, .val (.long q5), .second, .val (.int f0), .val (.int f1), .val (.int f2), .val (.long u0), .second, .val (.long u1), .second, .val (.long u2), .second, .val (.ref b12), .val (.ref b19), .val (.ref b29), .val (.ref b40), .unset, .unset, .unset, .unset, .unset, .unset, .unset, .unset, .unset, .unset, .unset, .unset] [])) _
        refine XS.goto X128.here hx rfl (pc0 := 160) (pc' := 170) rfl (hb hby at_160) (by decide) (by decide) ?_
        exact k)
      have qe : ev2 = u2 := hev2.trans (if_neg cf)
      exact ⟨T128, _, bt127, X128, N128, K129, O130, by rw [qe]; exact Sb127, Sl127, De127, k134⟩
  have E135 : Exa Z T118.heap b40 "com/example/lumenbus/lumenbus/log/Batch" := J118_3.1
  have lT2 : (((([0, 0, 0, 0, 0, 0, 0, 0, 0, 0, 0, 0, 0, 0, 0, 0] : List Int64).set 0 ev0).set 1 ev1).set 2 ev2).length = 16 := by rw [List.length_set]; exact lT1
  obtain ⟨x0, hd_x0⟩ : ∃ z : Int64, z = (if f0 = (0 : Int32) then q5 else u0) := ⟨_, rfl⟩
  have k136 : ∀ t, Steps p.tables e below (T118.setTop (mkF m 184 #[.val (.int p1), .val (.long q2), .second, .val (.long q3), .second, .val (.long q4), .second, .val (.long q5), .second, .val (.int f0), .val (.int f1), .val (.int f2), .val (.long u0), .second, .val (.long u1), .second, .val (.long u2), .second, .val (.ref b12), .val (.ref b19), .val (.ref b29), .val (.ref b40), .val (.long x0), .second, .unset, .unset, .unset, .unset, .unset, .unset, .unset, .unset, .unset, .unset] [])) t → Steps p.tables e below (s₁.setTop (entryFrame m #[(.int p1), (.long q2), (.long q3), (.long q4), (.long q5)] maxLocals)) t := fun t k => k118 t (by
    show Steps p.tables e below (T118.setTop (mkF m 170 #[.val (.int p1), .val (.long q2), .second, .val (.long q3), .second, .val (.long q4), .second, .val (.long q5), .second, .val (.int f0), .val (.int f1), .val (.int f2), .val (.long u0), .second, .val (.long u1), .second, .val (.long u2), .second, .val (.ref b12), .val (.ref b19), .val (.ref b29), .val (.ref b40), .unset, .unset, .unset, .unset, .unset, .unset, .unset, .unset, .unset, .unset, .unset, .unset] [])) _
    refine XS.iload X118.here hx rfl (hb hby at_170) rfl ?_
    by_cases c172 : f0 = (0 : Int32)
    ·
      show Steps p.tables e below (T118.setTop (mkF m 172 #[.val (.int p1), .val (.long q2), .second, .val (.long q3), .second, .val (.long q4), .second, .val (.long q5), .second, .val (.int f0), .val (.int f1), .val (.int f2), .val (.long u0), .second, .val (.long u1), .second, .val (.long u2), .second, .val (.ref b12), .val (.ref b19), .val (.ref b29), .val (.ref b40), .unset, .unset, .unset, .unset, .unset, .unset, .unset, .unset, .unset, .unset, .unset, .unset] [(.int f0)])) _
      refine XS.ifYes X118.here hx rfl (pc0 := 172) (pc' := 180) rfl (hb hby at_172) rfl ((if0 _ _).trans (teq c172).1) (by decide) (by decide) ?_
      show Steps p.tables e below (T118.setTop (mkF m 180 #[.val (.int p1), .val (.long q2), .second, .val (.long q3), .second, .val (.long q4), .second, .val (.long q5), .second, .val (.int f0), .val (.int f1), .val (.int f2), .val (.long u0), .second, .val (.long u1), .second, .val (.long u2), .second, .val (.ref b12), .val (.ref b19), .val (.ref b29), .val (.ref b40), .unset, .unset, .unset, .unset, .unset, .unset, .unset, .unset, .unset, .unset, .unset, .unset] [])) _
      refine XS.lload X118.here hx rfl (hb hby at_180) rfl ?_
      show Steps p.tables e below (T118.setTop (mkF m 182 #[.val (.int p1), .val (.long q2), .second, .val (.long q3), .second, .val (.long q4), .second, .val (.long q5), .second, .val (.int f0), .val (.int f1), .val (.int f2), .val (.long u0), .second, .val (.long u1), .second, .val (.long u2), .second, .val (.ref b12), .val (.ref b19), .val (.ref b29), .val (.ref b40), .unset, .unset, .unset, .unset, .unset, .unset, .unset, .unset, .unset, .unset, .unset, .unset] [(.long q5)])) _
      refine XS.lstore X118.here hx rfl (hb hby at_182) rfl (l' := #[.val (.int p1), .val (.long q2), .second, .val (.long q3), .second, .val (.long q4), .second, .val (.long q5), .second, .val (.int f0), .val (.int f1), .val (.int f2), .val (.long u0), .second, .val (.long u1), .second, .val (.long u2), .second, .val (.ref b12), .val (.ref b19), .val (.ref b29), .val (.ref b40), .val (.long q5), .second, .unset, .unset, .unset, .unset, .unset, .unset, .unset, .unset, .unset, .unset]) rfl ?_
      simp only [if_pos c172] at hd_x0
      rw [hd_x0] at k
      exact k
    ·
      show Steps p.tables e below (T118.setTop (mkF m 172 #[.val (.int p1), .val (.long q2), .second, .val (.long q3), .second, .val (.long q4), .second, .val (.long q5), .second, .val (.int f0), .val (.int f1), .val (.int f2), .val (.long u0), .second, .val (.long u1), .second, .val (.long u2), .second, .val (.ref b12), .val (.ref b19), .val (.ref b29), .val (.ref b40), .unset, .unset, .unset, .unset, .unset, .unset, .unset, .unset, .unset, .unset, .unset, .unset] [(.int f0)])) _
      refine XS.ifNo X118.here hx rfl (hb hby at_172) rfl ((if0 _ _).trans (feq c172).1) ?_
      show Steps p.tables e below (T118.setTop (mkF m 175 #[.val (.int p1), .val (.long q2), .second, .val (.long q3), .second, .val (.long q4), .second, .val (.long q5), .second, .val (.int f0), .val (.int f1), .val (.int f2), .val (.long u0), .second, .val (.long u1), .second, .val (.long u2), .second, .val (.ref b12), .val (.ref b19), .val (.ref b29), .val (.ref b40), .unset, .unset, .unset, .unset, .unset, .unset, .unset, .unset, .unset, .unset, .unset, .unset] [])) _
      refine XS.lload X118.here hx rfl (hb hby at_175) rfl ?_
      show Steps p.tables e below (T118.setTop (mkF m 177 #[.val (.int p1), .val (.long q2), .second, .val (.long q3), .second, .val (.long q4), .second, .val (.long q5), .second, .val (.int f0), .val (.int f1), .val (.int f2), .val (.long u0), .second, .val (.long u1), .second, .val (.long u2), .second, .val (.ref b12), .val (.ref b19), .val (.ref b29), .val (.ref b40), .unset, .unset, .unset, .unset, .unset, .unset, .unset, .unset, .unset, .unset, .unset, .unset] [(.long u0)])) _
      refine XS.goto X118.here hx rfl (pc0 := 177) (pc' := 182) rfl (hb hby at_177) (by decide) (by decide) ?_
      show Steps p.tables e below (T118.setTop (mkF m 182 #[.val (.int p1), .val (.long q2), .second, .val (.long q3), .second, .val (.long q4), .second, .val (.long q5), .second, .val (.int f0), .val (.int f1), .val (.int f2), .val (.long u0), .second, .val (.long u1), .second, .val (.long u2), .second, .val (.ref b12), .val (.ref b19), .val (.ref b29), .val (.ref b40), .unset, .unset, .unset, .unset, .unset, .unset, .unset, .unset, .unset, .unset, .unset, .unset] [(.long u0)])) _
      refine XS.lstore X118.here hx rfl (hb hby at_182) rfl (l' := #[.val (.int p1), .val (.long q2), .second, .val (.long q3), .second, .val (.long q4), .second, .val (.long q5), .second, .val (.int f0), .val (.int f1), .val (.int f2), .val (.long u0), .second, .val (.long u1), .second, .val (.long u2), .second, .val (.ref b12), .val (.ref b19), .val (.ref b29), .val (.ref b40), .val (.long u0), .second, .unset, .unset, .unset, .unset, .unset, .unset, .unset, .unset, .unset, .unset]) rfl ?_
      simp only [if_neg c172] at hd_x0
      rw [hd_x0] at k
      exact k)
  obtain ⟨x1, hd_x1⟩ : ∃ z : Int64, z = (if f1 = (0 : Int32) then q5 else u1) := ⟨_, rfl⟩
  have k137 : ∀ t, Steps p.tables e below (T118.setTop (mkF m 198 #[.val (.int p1), .val (.long q2), .second, .val (.long q3), .second, .val (.long q4), .second, .val (.long q5), .second, .val (.int f0), .val (.int f1), .val (.int f2), .val (.long u0), .second, .val (.long u1), .second, .val (.long u2), .second, .val (.ref b12), .val (.ref b19), .val (.ref b29), .val (.ref b40), .val (.long x0), .second, .val (.long x1), .second, .unset, .unset, .unset, .unset, .unset, .unset, .unset, .unset] [])) t → Steps p.tables e below (s₁.setTop (entryFrame m #[(.int p1), (.long q2), (.long q3), (.long q4), (.long q5)] maxLocals)) t := fun t k => k136 t (by
    show Steps p.tables e below (T118.setTop (mkF m 184 #[.val (.int p1), .val (.long q2), .second, .val (.long q3), .second, .val (.long q4), .second, .val (.long q5), .second, .val (.int f0), .val (.int f1), .val (.int f2), .val (.long u0), .second, .val (.long u1), .second, .val (.long u2), .second, .val (.ref b12), .val (.ref b19), .val (.ref b29), .val (.ref b40), .val (.long x0), .second, .unset, .unset, .unset, .unset, .unset, .unset, .unset, .unset, .unset, .unset] [])) _
    refine XS.iload X118.here hx rfl (hb hby at_184) rfl ?_
    by_cases c186 : f1 = (0 : Int32)
    ·
      show Steps p.tables e below (T118.setTop (mkF m 186 #[.val (.int p1), .val (.long q2), .second, .val (.long q3), .second, .val (.long q4), .second, .val (.long q5), .second, .val (.int f0), .val (.int f1), .val (.int f2), .val (.long u0), .second, .val (.long u1), .second, .val (.long u2), .second, .val (.ref b12), .val (.ref b19), .val (.ref b29), .val (.ref b40), .val (.long x0), .second, .unset, .unset, .unset, .unset, .unset, .unset, .unset, .unset, .unset, .unset] [(.int f1)])) _
      refine XS.ifYes X118.here hx rfl (pc0 := 186) (pc' := 194) rfl (hb hby at_186) rfl ((if0 _ _).trans (teq c186).1) (by decide) (by decide) ?_
      show Steps p.tables e below (T118.setTop (mkF m 194 #[.val (.int p1), .val (.long q2), .second, .val (.long q3), .second, .val (.long q4), .second, .val (.long q5), .second, .val (.int f0), .val (.int f1), .val (.int f2), .val (.long u0), .second, .val (.long u1), .second, .val (.long u2), .second, .val (.ref b12), .val (.ref b19), .val (.ref b29), .val (.ref b40), .val (.long x0), .second, .unset, .unset, .unset, .unset, .unset, .unset, .unset, .unset, .unset, .unset] [])) _
      refine XS.lload X118.here hx rfl (hb hby at_194) rfl ?_
      show Steps p.tables e below (T118.setTop (mkF m 196 #[.val (.int p1), .val (.long q2), .second, .val (.long q3), .second, .val (.long q4), .second, .val (.long q5), .second, .val (.int f0), .val (.int f1), .val (.int f2), .val (.long u0), .second, .val (.long u1), .second, .val (.long u2), .second, .val (.ref b12), .val (.ref b19), .val (.ref b29), .val (.ref b40), .val (.long x0), .second, .unset, .unset, .unset, .unset, .unset, .unset, .unset, .unset, .unset, .unset] [(.long q5)])) _
      refine XS.lstore X118.here hx rfl (hb hby at_196) rfl (l' := #[.val (.int p1), .val (.long q2), .second, .val (.long q3), .second, .val (.long q4), .second, .val (.long q5), .second, .val (.int f0), .val (.int f1), .val (.int f2), .val (.long u0), .second, .val (.long u1), .second, .val (.long u2), .second, .val (.ref b12), .val (.ref b19), .val (.ref b29), .val (.ref b40), .val (.long x0), .second, .val (.long q5), .second, .unset, .unset, .unset, .unset, .unset, .unset, .unset, .unset]) rfl ?_
      simp only [if_pos c186] at hd_x1
      rw [hd_x1] at k
      exact k
    ·
      show Steps p.tables e below (T118.setTop (mkF m 186 #[.val (.int p1), .val (.long q2), .second, .val (.long q3), .second, .val (.long q4), .second, .val (.long q5), .second, .val (.int f0), .val (.int f1), .val (.int f2), .val (.long u0), .second, .val (.long u1), .second, .val (.long u2), .second, .val (.ref b12), .val (.ref b19), .val (.ref b29), .val (.ref b40), .val (.long x0), .second, .unset, .unset, .unset, .unset, .unset, .unset, .unset, .unset, .unset, .unset] [(.int f1)])) _
      refine XS.ifNo X118.here hx rfl (hb hby at_186) rfl ((if0 _ _).trans (feq c186).1) ?_
      show Steps p.tables e below (T118.setTop (mkF m 189 #[.val (.int p1), .val (.long q2), .second, .val (.long q3), .second, .val (.long q4), .second, .val (.long q5), .second, .val (.int f0), .val (.int f1), .val (.int f2), .val (.long u0), .second, .val (.long u1), .second, .val (.long u2), .second, .val (.ref b12), .val (.ref b19), .val (.ref b29), .val (.ref b40), .val (.long x0), .second, .unset, .unset, .unset, .unset, .unset, .unset, .unset, .unset, .unset, .unset] [])) _
      refine XS.lload X118.here hx rfl (hb hby at_189) rfl ?_
      show Steps p.tables e below (T118.setTop (mkF m 191 #[.val (.int p1), .val (.long q2), .second, .val (.long q3), .second, .val (.long q4), .second, .val (.long q5), .second, .val (.int f0), .val (.int f1), .val (.int f2), .val (.long u0), .second, .val (.long u1), .second, .val (.long u2), .second, .val (.ref b12), .val (.ref b19), .val (.ref b29), .val (.ref b40), .val (.long x0), .second, .unset, .unset, .unset, .unset, .unset, .unset, .unset, .unset, .unset, .unset] [(.long u1)])) _
      refine XS.goto X118.here hx rfl (pc0 := 191) (pc' := 196) rfl (hb hby at_191) (by decide) (by decide) ?_
      show Steps p.tables e below (T118.setTop (mkF m 196 #[.val (.int p1), .val (.long q2), .second, .val (.long q3), .second, .val (.long q4), .second, .val (.long q5), .second, .val (.int f0), .val (.int f1), .val (.int f2), .val (.long u0), .second, .val (.long u1), .second, .val (.long u2), .second, .val (.ref b12), .val (.ref b19), .val (.ref b29), .val (.ref b40), .val (.long x0), .second, .unset, .unset, .unset, .unset, .unset, .unset, .unset, .unset, .unset, .unset] [(.long u1)])) _
      refine XS.lstore X118.here hx rfl (hb hby at_196) rfl (l' := #[.val (.int p1), .val (.long q2), .second, .val (.long q3), .second, .val (.long q4), .second, .val (.long q5), .second, .val (.int f0), .val (.int f1), .val (.int f2), .val (.long u0), .second, .val (.long u1), .second, .val (.long u2), .second, .val (.ref b12), .val (.ref b19), .val (.ref b29), .val (.ref b40), .val (.long x0), .second, .val (.long u1), .second, .unset, .unset, .unset, .unset, .unset, .unset, .unset, .unset]) rfl ?_
      simp only [if_neg c186] at hd_x1
      rw [hd_x1] at k
      exact k)
  obtain ⟨x2, hd_x2⟩ : ∃ z : Int64, z = (if f2 = (0 : Int32) then q5 else u2) := ⟨_, rfl⟩
  have k138 : ∀ t, Steps p.tables e below (T118.setTop (mkF m 212 #[.val (.int p1), .val (.long q2), .second, .val (.long q3), .second, .val (.long q4), .second, .val (.long q5), .second, .val (.int f0), .val (.int f1), .val (.int f2), .val (.long u0), .second, .val (.long u1), .second, .val (.long u2), .second, .val (.ref b12), .val (.ref b19), .val (.ref b29), .val (.ref b40), .val (.long x0), .second, .val (.long x1), .second, .val (.long x2), .second, .unset, .unset, .unset, .unset, .unset, .unset] [])) t → Steps p.tables e below (s₁.setTop (entryFrame m #[(.int p1), (.long q2), (.long q3), (.long q4), (.long q5)] maxLocals)) t := fun t k => k137 t (by
    show Steps p.tables e below (T118.setTop (mkF m 198 #[.val (.int p1), .val (.long q2), .second, .val (.long q3), .second, .val (.long q4), .second, .val (.long q5), .second, .val (.int f0), .val (.int f1), .val (.int f2), .val (.long u0), .second, .val (.long u1), .second, .val (.long u2), .second, .val (.ref b12), .val (.ref b19), .val (.ref b29), .val (.ref b40), .val (.long x0), .second, .val (.long x1), .second, .unset, .unset, .unset, .unset, .unset, .unset, .unset, .unset] [])) _
    refine XS.iload X118.here hx rfl (hb hby at_198) rfl ?_
    by_cases c200 : f2 = (0 : Int32)
    ·
      show Steps p.tables e below (T118.setTop (mkF m 200 #[.val (.int p1), .val (.long q2), .second, .val (.long q3), .second, .val (.long q4), .second, .val (.long q5), .second, .val (.int f0), .val (.int f1), .val (.int f2), .val (.long u0), .second, .val (.long u1), .second, .val (.long u2), .second, .val (.ref b12), .val (.ref b19), .val (.ref b29), .val (.ref b40), .val (.long x0), .second, .val (.long x1), .second, .unset, .unset, .unset, .unset, .unset, .unset, .unset, .unset] [(.int f2)])) _
      refine XS.ifYes X118.here hx rfl (pc0 := 200) (pc' := 208) rfl (hb hby at_200) rfl ((if0 _ _).trans (teq c200).1) (by decide) (by decide) ?_
      show Steps p.tables e below (T118.setTop (mkF m 208 #[.val (.int p1), .val (.long q2), .second, .val (.long q3), .second, .val (.long q4), .second, .val (.long q5), .second, .val (.int f0), .val (.int f1), .val (.int f2), .val (.long u0), .second, .val (.long u1), .second, .val (.long u2), .second, .val (.ref b12), .val (.ref b19), .val (.ref b29), .val (.ref b40), .val (.long x0), .second, .val (.long x1), .second, .unset, .unset, .unset, .unset, .unset, .unset, .unset, .unset] [])) _
      refine XS.lload X118.here hx rfl (hb hby at_208) rfl ?_
      show Steps p.tables e below (T118.setTop (mkF m 210 #[.val (.int p1), .val (.long q2), .second, .val (.long q3), .second, .val (.long q4), .second, .val (.long q5), .second, .val (.int f0), .val (.int f1), .val (.int f2), .val (.long u0), .second, .val (.long u1), .second, .val (.long u2), .second, .val (.ref b12), .val (.ref b19), .val (.ref b29), .val (.ref b40), .val (.long x0), .second, .val (.long x1), .second, .unset, .unset, .unset, .unset, .unset, .unset, .unset, .unset] [(.long q5)])) _
      refine XS.lstore X118.here hx rfl (hb hby at_210) rfl (l' := #[.val (.int p1), .val (.long q2), .second, .val (.long q3), .second, .val (.long q4), .second, .val (.long q5), .second, .val (.int f0), .val (.int f1), .val (.int f2), .val (.long u0), .second, .val (.long u1), .second, .val (.long u2), .second, .val (.ref b12), .val (.ref b19), .val (.ref b29), .val (.ref b40), .val (.long x0), .second, .val (.long x1), .second, .val (.long q5), .second, .unset, .unset, .unset, .unset, .unset, .unset]) rfl ?_
      simp only [if_pos c200] at hd_x2
      rw [hd_x2] at k
      exact k
    ·
      show Steps p.tables e below (T118.setTop (mkF m 200 #[.val (.int p1), .val (.long q2), .second, .val (.long q3), .second, .val (.long q4), .second, .val (.long q5), .second, .val (.int f0), .val (.int f1), .val (.int f2), .val (.long u0), .second, .val (.long u1), .second, .val (.long u2), .second, .val (.ref b12), .val (.ref b19), .val (.ref b29), .val (.ref b40), .val (.long x0), .second, .val (.long x1), .second, .unset, .unset, .unset, .unset, .unset, .unset, .unset, .unset] [(.int f2)])) _
      refine XS.ifNo X118.here hx rfl (hb hby at_200) rfl ((if0 _ _).trans (feq c200).1) ?_
      show Steps p.tables e below (T118.setTop (mkF m 203 #[.val (.int p1), .val (.long q2), .second, .val (.long q3), .second, .val (.long q4), .second, .val (.long q5), .second, .val (.int f0), .val (.int f1), .val (.int f2), .val (.long u0), .second, .val (.long u1), .second, .val (.long u2), .second, .val (.ref b12), .val (.ref b19), .val (.ref b29), .val (.ref b40), .val (.long x0), .second, .val (.long x1), .second, .unset, .unset, .unset, .unset, .unset, .unset, .unset, .unset] [])) _
      refine XS.lload X118.here hx rfl (hb hby at_203) rfl ?_
      show Steps p.tables e below (T118.setTop (mkF m 205 #[.val (.int p1), .val (.long q2), .second, .val (.long q3), .second, .val (.long q4), .second, .val (.long q5), .second, .val (.int f0), .val (.int f1), .val (.int f2), .val (.long u0), .second, .val (.long u1), .second, .val (.long u2), .second, .val (.ref b12), .val (.ref b19), .val (.ref b29), .val (.ref b40), .val (.long x0), .second, .val (.long x1), .second, .unset, .unset, .unset, .unset, .unset, .unset, .unset, .unset] [(.long u2)])) _
      refine XS.goto X118.here hx rfl (pc0 := 205) (pc' := 210) rfl (hb hby at_205) (by decide) (by decide) ?_
      show Steps p.tables e below (T118.setTop (mkF m 210 #[.val (.int p1), .val (.long q2), .second, .val (.long q3), .second, .val (.long q4), .second, .val (.long q5), .second, .val (.int f0), .val (.int f1), .val (.int f2), .val (.long u0), .second, .val (.long u1), .second, .val (.long u2), .second, .val (.ref b12), .val (.ref b19), .val (.ref b29), .val (.ref b40), .val (.long x0), .second, .val (.long x1), .second, .unset, .unset, .unset, .unset, .unset, .unset, .unset, .unset] [(.long u2)])) _
      refine XS.lstore X118.here hx rfl (hb hby at_210) rfl (l' := #[.val (.int p1), .val (.long q2), .second, .val (.long q3), .second, .val (.long q4), .second, .val (.long q5), .second, .val (.int f0), .val (.int f1), .val (.int f2), .val (.long u0), .second, .val (.long u1), .second, .val (.long u2), .second, .val (.ref b12), .val (.ref b19), .val (.ref b29), .val (.ref b40), .val (.long x0), .second, .val (.long x1), .second, .val (.long u2), .second, .unset, .unset, .unset, .unset, .unset, .unset]) rfl ?_
      simp only [if_neg c200] at hd_x2
      rw [hd_x2] at k
      exact k)
  obtain ⟨E_o, F_o1, F_o2, F_o3, V_o⟩ := J118_3
  obtain ⟨cq139, kq139, q139a, q139b, q139c⟩ := isOf hZ rfl E135
  obtain ⟨_, _, ⟨T139, L139, kk139, n139⟩, -, X139, ⟨Lc139, hQ139, l139, y139, z139⟩, st139⟩ := X118.virtualBack hx (y := (⟨"com/example/lumenbus/lumenbus/log/Batch", "timestamp", "(IJ)J"⟩ : MethodName)) (z := (⟨"com/example/lumenbus/lumenbus/log/Batch", "timestamp", "(IJ)J"⟩ : MethodName)) hown (mvT hZ (hw _ (List.mem_of_getElem? (i := 100) rfl))) (mvT hZ (hw _ (List.mem_of_getElem? (i := 101) rfl))) (notFace_of_selects (args := #[]) (mvT hZ (hw _ (List.mem_of_getElem? (i := 103) rfl)))) (mvT hZ (hw _ (List.mem_of_getElem? (i := 103) rfl))) (mvT hZ (hw _ (List.mem_of_getElem? (i := 102) rfl))) (by decide) (backOf (W := 0) (rm_stamp l Z a0 hw [] b40 (2 : Int32) q5 ts kt (((([0, 0, 0, 0, 0, 0, 0, 0, 0, 0, 0, 0, 0, 0, 0, 0] : List Int64).set 0 ev0).set 1 ev1).set 2 ev2) T118.heap n0 (Nat.le_trans Z0 J118_1.1) F_o2 V_o (by decide)) hZ (hw _ (List.mem_of_getElem? (i := 104) rfl)) (hw _ (List.mem_of_getElem? (i := 4) rfl)) (by decide) (by decide)) q139a q139c (g := (mkF m 217 #[.val (.int p1), .val (.long q2), .second, .val (.long q3), .second, .val (.long q4), .second, .val (.long q5), .second, .val (.int f0), .val (.int f1), .val (.int f2), .val (.long u0), .second, .val (.long u1), .second, .val (.long u2), .second, .val (.ref b12), .val (.ref b19), .val (.ref b29), .val (.ref b40), .val (.long x0), .second, .val (.long x1), .second, .val (.long x2), .second, .unset, .unset, .unset, .unset, .unset, .unset] [(.long q5), (.int (2 : Int32)), (.ref b40)])) rfl (by rw [hml]; rfl) (Steps.refl _) (argsL := [(.int (2 : Int32)), (.long q5)]) (rest := []) (lenOf pd__IJ_J rfl) rfl (by show 2 * 0 + _ ≤ _; exact Nat.le_of_eq rfl) (hb hby at_217) (fun _ _ => ⟨rfl, rfl, (by decide : 7 + 0 ≤ _), (by decide : 43 + 0 ≤ _)⟩)
  dsimp only [Pt.U, Pt.locs, Pt.cells, Pt.slots] at X139 l139 y139 z139 st139 hQ139
  subst l139 y139 z139
  obtain ⟨rfl, N139q, qt2⟩ := hQ139
  have N139 := Fr.app J118_0 N139q
  have k140 : ∀ t, Steps p.tables e below (T139.setTop (mkF m 222 #[.val (.int p1), .val (.long q2), .second, .val (.long q3), .second, .val (.long q4), .second, .val (.long q5), .second, .val (.int f0), .val (.int f1), .val (.int f2), .val (.long u0), .second, .val (.long u1), .second, .val (.long u2), .second, .val (.ref b12), .val (.ref b19), .val (.ref b29), .val (.ref b40), .val (.long x0), .second, .val (.long x1), .second, .val (.long x2), .second, .val (.long (own_ts (((([0, 0, 0, 0, 0, 0, 0, 0, 0, 0, 0, 0, 0, 0, 0, 0] : List Int64).set 0 ev0).set 1 ev1).set 2 ev2) (2 : Int32) q5)), .second, .unset, .unset, .unset, .unset] [])) t → Steps p.tables e below (s₁.setTop (entryFrame m #[(.int p1), (.long q2), (.long q3), (.long q4), (.long q5)] maxLocals)) t := fun t k => k138 t (by
    show Steps p.tables e below (T118.setTop (mkF m 212 #[.val (.int p1), .val (.long q2), .second, .val (.long q3), .second, .val (.long q4), .second, .val (.long q5), .second, .val (.int f0), .val (.int f1), .val (.int f2), .val (.long u0), .second, .val (.long u1), .second, .val (.long u2), .second, .val (.ref b12), .val (.ref b19), .val (.ref b29), .val (.ref b40), .val (.long x0), .second, .val (.long x1), .second, .val (.long x2), .second, .unset, .unset, .unset, .unset, .unset, .unset] [])) _
    refine XS.aload X118.here hx rfl (hb hby at_212) rfl rfl ?_
    show Steps p.tables e below (T118.setTop (mkF m 214 #[.val (.int p1), .val (.long q2), .second, .val (.long q3), .second, .val (.long q4), .second, .val (.long q5), .second, .val (.int f0), .val (.int f1), .val (.int f2), .val (.long u0), .second, .val (.long u1), .second, .val (.long u2), .second, .val (.ref b12), .val (.ref b19), .val (.ref b29), .val (.ref b40), .val (.long x0), .second, .val (.long x1), .second, .val (.long x2), .second, .unset, .unset, .unset, .unset, .unset, .unset] [(.ref b40)])) _
    refine XS.iconst X118.here hx rfl (hb hby at_214) ?_
    show Steps p.tables e below (T118.setTop (mkF m 215 #[.val (.int p1), .val (.long q2), .second, .val (.long q3), .second, .val (.long q4), .second, .val (.long q5), .second, .val (.int f0), .val (.int f1), .val (.int f2), .val (.long u0), .second, .val (.long u1), .second, .val (.long u2), .second, .val (.ref b12), .val (.ref b19), .val (.ref b29), .val (.ref b40), .val (.long x0), .second, .val (.long x1), .second, .val (.long x2), .second, .unset, .unset, .unset, .unset, .unset, .unset] [(.int (2 : Int32)), (.ref b40)])) _
    refine XS.lload X118.here hx rfl (hb hby at_215) rfl ?_
    show Steps p.tables e below (T118.setTop (mkF m 217 #[.val (.int p1), .val (.long q2), .second, .val (.long q3), .second, .val (.long q4), .second, .val (.long q5), .second, .val (.int f0), .val (.int f1), .val (.int f2), .val (.long u0), .second, .val (.long u1), .second, .val (.long u2), .second, .val (.ref b12), .val (.ref b19), .val (.ref b29), .val (.ref b40), .val (.long x0), .second, .val (.long x1), .second, .val (.long x2), .second, .unset, .unset, .unset, .unset, .unset, .unset] [(.long q5), (.int (2 : Int32)), (.ref b40)])) _
    refine st139.trans ?_
    show Steps p.tables e below (T139.setTop (mkF m 220 #[.val (.int p1), .val (.long q2), .second, .val (.long q3), .second, .val (.long q4), .second, .val (.long q5), .second, .val (.int f0), .val (.int f1), .val (.int f2), .val (.long u0), .second, .val (.long u1), .second, .val (.long u2), .second, .val (.ref b12), .val (.ref b19), .val (.ref b29), .val (.ref b40), .val (.long x0), .second, .val (.long x1), .second, .val (.long x2), .second, .unset, .unset, .unset, .unset, .unset, .unset] [(.long (own_ts (((([0, 0, 0, 0, 0, 0, 0, 0, 0, 0, 0, 0, 0, 0, 0, 0] : List Int64).set 0 ev0).set 1 ev1).set 2 ev2) (2 : Int32) q5))])) _
    refine XS.lstore X139.here hx rfl (hb hby at_220) rfl (l' := #[.val (.int p1), .val (.long q2), .second, .val (.long q3), .second, .val (.long q4), .second, .val (.long q5), .second, .val (.int f0), .val (.int f1), .val (.int f2), .val (.long u0), .second, .val (.long u1), .second, .val (.long u2), .second, .val (.ref b12), .val (.ref b19), .val (.ref b29), .val (.ref b40), .val (.long x0), .second, .val (.long x1), .second, .val (.long x2), .second, .val (.long (own_ts (((([0, 0, 0, 0, 0, 0, 0, 0, 0, 0, 0, 0, 0, 0, 0, 0] : List Int64).set 0 ev0).set 1 ev1).set 2 ev2) (2 : Int32) q5)), .second, .unset, .unset, .unset, .unset]) rfl ?_
    exact k)
  obtain ⟨y2_, hd_y2_⟩ : ∃ z : Int64, z = (own_ts (((([0, 0, 0, 0, 0, 0, 0, 0, 0, 0, 0, 0, 0, 0, 0, 0] : List Int64).set 0 ev0).set 1 ev1).set 2 ev2) (2 : Int32) q5) := ⟨_, rfl⟩
  have k141 : ∀ t, Steps p.tables e below (T139.setTop (mkF m 222 #[.val (.int p1), .val (.long q2), .second, .val (.long q3), .second, .val (.long q4), .second, .val (.long q5), .second, .val (.int f0), .val (.int f1), .val (.int f2), .val (.long u0), .second, .val (.long u1), .second, .val (.long u2), .second, .val (.ref b12), .val (.ref b19), .val (.ref b29), .val (.ref b40), .val (.long x0), .second, .val (.long x1), .second, .val (.long x2), .second, .val (.long y2_), .second, .unset, .unset, .unset, .unset] [])) t → Steps p.tables e below (s₁.setTop (entryFrame m #[(.int p1), (.long q2), (.long q3), (.long q4), (.long q5)] maxLocals)) t := by rw [hd_y2_]; exact k140
  obtain ⟨cq142, kq142, q142a, q142b, q142c⟩ := isOf hZ qt2 E135
  obtain ⟨_, _, ⟨T142, L142, kk142, n142⟩, -, X142, ⟨Lc142, hQ142, l142, y142, z142⟩, st142⟩ := X139.virtualBack hx (y := (⟨"com/example/lumenbus/lumenbus/log/Batch", "timestamp", "(IJ)J"⟩ : MethodName)) (z := (⟨"com/example/lumenbus/lumenbus/log/Batch", "timestamp", "(IJ)J"⟩ : MethodName)) hown (mvT hZ (hw _ (List.mem_of_getElem? (i := 100) rfl))) (mvT hZ (hw _ (List.mem_of_getElem? (i := 101) rfl))) (notFace_of_selects (args := #[]) (mvT hZ (hw _ (List.mem_of_getElem? (i := 103) rfl)))) (mvT hZ (hw _ (List.mem_of_getElem? (i := 103) rfl))) (mvT hZ (hw _ (List.mem_of_getElem? (i := 102) rfl))) (by decide) (backOf (W := 0) (rm_stamp l Z a0 hw [] b40 (0 : Int32) q5 ts kt (((([0, 0, 0, 0, 0, 0, 0, 0, 0, 0, 0, 0, 0, 0, 0, 0] : List Int64).set 0 ev0).set 1 ev1).set 2 ev2) T118.heap n0 (Nat.le_trans Z0 J118_1.1) F_o2 V_o (by decide)) hZ (hw _ (List.mem_of_getElem? (i := 104) rfl)) (hw _ (List.mem_of_getElem? (i := 4) rfl)) (by decide) (by decide)) q142a q142c (g := (mkF m 227 #[.val (.int p1), .val (.long q2), .second, .val (.long q3), .second, .val (.long q4), .second, .val (.long q5), .second, .val (.int f0), .val (.int f1), .val (.int f2), .val (.long u0), .second, .val (.long u1), .second, .val (.long u2), .second, .val (.ref b12), .val (.ref b19), .val (.ref b29), .val (.ref b40), .val (.long x0), .second, .val (.long x1), .second, .val (.long x2), .second, .val (.long y2_), .second, .unset, .unset, .unset, .unset] [(.long q5), (.int (0 : Int32)), (.ref b40)])) rfl (by rw [hml]; rfl) (Steps.refl _) (argsL := [(.int (0 : Int32)), (.long q5)]) (rest := []) (lenOf pd__IJ_J rfl) rfl (by show 2 * 0 + _ ≤ _; exact Nat.le_of_eq rfl) (hb hby at_227) (fun _ _ => ⟨rfl, qt2, (by decide : 7 + 0 ≤ _), (by decide : 43 + 0 ≤ _)⟩)
  dsimp only [Pt.U, Pt.locs, Pt.cells, Pt.slots] at X142 l142 y142 z142 st142 hQ142
  subst l142 y142 z142
  obtain ⟨rfl, N142q, qt0⟩ := hQ142
  have N142 := Fr.app N139 N142q
  have k143 : ∀ t, Steps p.tables e below (T142.setTop (mkF m 232 #[.val (.int p1), .val (.long q2), .second, .val (.long q3), .second, .val (.long q4), .second, .val (.long q5), .second, .val (.int f0), .val (.int f1), .val (.int f2), .val (.long u0), .second, .val (.long u1), .second, .val (.long u2), .second, .val (.ref b12), .val (.ref b19), .val (.ref b29), .val (.ref b40), .val (.long x0), .second, .val (.long x1), .second, .val (.long x2), .second, .val (.long y2_), .second, .val (.long (own_ts (((([0, 0, 0, 0, 0, 0, 0, 0, 0, 0, 0, 0, 0, 0, 0, 0] : List Int64).set 0 ev0).set 1 ev1).set 2 ev2) (0 : Int32) q5)), .second, .unset, .unset] [])) t → Steps p.tables e below (s₁.setTop (entryFrame m #[(.int p1), (.long q2), (.long q3), (.long q4), (.long q5)] maxLocals)) t := fun t k => k141 t (by
    show Steps p.tables e below (T139.setTop (mkF m 222 #[.val (.int p1), .val (.long q2), .second, .val (.long q3), .second, .val (.long q4), .second, .val (.long q5), .second, .val (.int f0), .val (.int f1), .val (.int f2), .val (.long u0), .second, .val (.long u1), .second, .val (.long u2), .second, .val (.ref b12), .val (.ref b19), .val (.ref b29), .val (.ref b40), .val (.long x0), .second, .val (.long x1), .second, .val (.long x2), .second, .val (.long y2_), .second, .unset, .unset, .unset, .unset] [])) _
    refine XS.aload X139.here hx rfl (hb hby at_222) rfl rfl ?_
    show Steps p.tables e below (T139.setTop (mkF m 224 #[.val (.int p1), .val (.long q2), .second, .val (.long q3), .second, .val (.long q4), .second, .val (.long q5), .second, .val (.int f0), .val (.int f1), .val (.int f2), .val (.long u0), .second, .val (.long u1), .second, .val (.long u2), .second, .val (.ref b12), .val (.ref b19), .val (.ref b29), .val (.ref b40), .val (.long x0), .second, .val (.long x1), .second, .val (.long x2), .second, .val (.long y2_), .second, .unset, .unset, .unset, .unset] [(.ref b40)])) _
    refine XS.iconst X139.here hx rfl (hb hby at_224) ?_
    show Steps p.tables e below (T139.setTop (mkF m 225 #[.val (.int p1), .val (.long q2), .second, .val (.long q3), .second, .val (.long q4), .second, .val (.long q5), .second, .val (.int f0), .val (.int f1), .val (.int f2), .val (.long u0), .second, .val (.long u1), .second, .val (.long u2), .second, .val (.ref b12), .val (.ref b19), .val (.ref b29), .val (.ref b40), .val (.long x0), .second, .val (.long x1), .second, .val (.long x2), .second, .val (.long y2_), .second, .unset, .unset, .unset, .unset] [(.int (0 : Int32)), (.ref b40)])) _
    refine XS.lload X139.here hx rfl (hb hby at_225) rfl ?_
    show Steps p.tables e below (T139.setTop (mkF m 227 #[.val (.int p1), .val (.long q2), .second, .val (.long q3), .second, .val (.long q4), .second, .val (.long q5), .second, .val (.int f0), .val (.int f1), .val (.int f2), .val (.long u0), .second, .val (.long u1), .second, .val (.long u2), .second, .val (.ref b12), .val (.ref b19), .val (.ref b29), .val (.ref b40), .val (.long x0), .second, .val (.long x1), .second, .val (.long x2), .second, .val (.long y2_), .second, .unset, .unset, .unset, .unset] [(.long q5), (.int (0 : Int32)), (.ref b40)])) _
    refine st142.trans ?_
    show Steps p.tables e below (T142.setTop (mkF m 230 #[.val (.int p1), .val (.long q2), .second, .val (.long q3), .second, .val (.long q4), .second, .val (.long q5), .second, .val (.int f0), .val (.int f1), .val (.int f2), .val (.long u0), .second, .val (.long u1), .second, .val (.long u2), .second, .val (.ref b12), .val (.ref b19), .val (.ref b29), .val (.ref b40), .val (.long x0), .second, .val (.long x1), .second, .val (.long x2), .second, .val (.long y2_), .second, .unset, .unset, .unset, .unset] [(.long (own_ts (((([0, 0, 0, 0, 0, 0, 0, 0, 0, 0, 0, 0, 0, 0, 0, 0] : List Int64).set 0 ev0).set 1 ev1).set 2 ev2) (0 : Int32) q5))])) _
    refine XS.lstore X142.here hx rfl (hb hby at_230) rfl (l' := #[.val (.int p1), .val (.long q2), .second, .val (.long q3), .second, .val (.long q4), .second, .val (.long q5), .second, .val (.int f0), .val (.int f1), .val (.int f2), .val (.long u0), .second, .val (.long u1), .second, .val (.long u2), .second, .val (.ref b12), .val (.ref b19), .val (.ref b29), .val (.ref b40), .val (.long x0), .second, .val (.long x1), .second, .val (.long x2), .second, .val (.long y2_), .second, .val (.long (own_ts (((([0, 0, 0, 0, 0, 0, 0, 0, 0, 0, 0, 0, 0, 0, 0, 0] : List Int64).set 0 ev0).set 1 ev1).set 2 ev2) (0 : Int32) q5)), .second, .unset, .unset]) rfl ?_
    exact k)
  obtain ⟨y0_, hd_y0_⟩ : ∃ z : Int64, z = (own_ts (((([0, 0, 0, 0, 0, 0, 0, 0, 0, 0, 0, 0, 0, 0, 0, 0] : List Int64).set 0 ev0).set 1 ev1).set 2 ev2) (0 : Int32) q5) := ⟨_, rfl⟩
  have k144 : ∀ t, Steps p.tables e below (T142.setTop (mkF m 232 #[.val (.int p1), .val (.long q2), .second, .val (.long q3), .second, .val (.long q4), .second, .val (.long q5), .second, .val (.int f0), .val (.int f1), .val (.int f2), .val (.long u0), .second, .val (.long u1), .second, .val (.long u2), .second, .val (.ref b12), .val (.ref b19), .val (.ref b29), .val (.ref b40), .val (.long x0), .second, .val (.long x1), .second, .val (.long x2), .second, .val (.long y2_), .second, .val (.long y0_), .second, .unset, .unset] [])) t → Steps p.tables e below (s₁.setTop (entryFrame m #[(.int p1), (.long q2), (.long q3), (.long q4), (.long q5)] maxLocals)) t := by rw [hd_y0_]; exact k143
  obtain ⟨cq145, kq145, q145a, q145b, q145c⟩ := isOf hZ qt0 E135
  obtain ⟨_, _, ⟨T145, L145, kk145, n145⟩, -, X145, ⟨Lc145, hQ145, l145, y145, z145⟩, st145⟩ := X142.virtualBack hx (y := (⟨"com/example/lumenbus/lumenbus/log/Batch", "timestamp", "(IJ)J"⟩ : MethodName)) (z := (⟨"com/example/lumenbus/lumenbus/log/Batch", "timestamp", "(IJ)J"⟩ : MethodName)) hown (mvT hZ (hw _ (List.mem_of_getElem? (i := 100) rfl))) (mvT hZ (hw _ (List.mem_of_getElem? (i := 101) rfl))) (notFace_of_selects (args := #[]) (mvT hZ (hw _ (List.mem_of_getElem? (i := 103) rfl)))) (mvT hZ (hw _ (List.mem_of_getElem? (i := 103) rfl))) (mvT hZ (hw _ (List.mem_of_getElem? (i := 102) rfl))) (by decide) (backOf (W := 0) (rm_stamp l Z a0 hw [] b40 (1 : Int32) q5 ts kt (((([0, 0, 0, 0, 0, 0, 0, 0, 0, 0, 0, 0, 0, 0, 0, 0] : List Int64).set 0 ev0).set 1 ev1).set 2 ev2) T118.heap n0 (Nat.le_trans Z0 J118_1.1) F_o2 V_o (by decide)) hZ (hw _ (List.mem_of_getElem? (i := 104) rfl)) (hw _ (List.mem_of_getElem? (i := 4) rfl)) (by decide) (by decide)) q145a q145c (g := (mkF m 237 #[.val (.int p1), .val (.long q2), .second, .val (.long q3), .second, .val (.long q4), .second, .val (.long q5), .second, .val (.int f0), .val (.int f1), .val (.int f2), .val (.long u0), .second, .val (.long u1), .second, .val (.long u2), .second, .val (.ref b12), .val (.ref b19), .val (.ref b29), .val (.ref b40), .val (.long x0), .second, .val (.long x1), .second, .val (.long x2), .second, .val (.long y2_), .second, .val (.long y0_), .second, .unset, .unset] [(.long q5), (.int (1 : Int32)), (.ref b40)])) rfl (by rw [hml]; rfl) (Steps.refl _) (argsL := [(.int (1 : Int32)), (.long q5)]) (rest := []) (lenOf pd__IJ_J rfl) rfl (by show 2 * 0 + _ ≤ _; exact Nat.le_of_eq rfl) (hb hby at_237) (fun _ _ => ⟨rfl, qt0, (by decide : 7 + 0 ≤ _), (by decide : 43 + 0 ≤ _)⟩)
  dsimp only [Pt.U, Pt.locs, Pt.cells, Pt.slots] at X145 l145 y145 z145 st145 hQ145
  subst l145 y145 z145
  obtain ⟨rfl, N145q, qt1⟩ := hQ145
  have N145 := Fr.app N142 N145q
  have k146 : ∀ t, Steps p.tables e below (T145.setTop (mkF m 242 #[.val (.int p1), .val (.long q2), .second, .val (.long q3), .second, .val (.long q4), .second, .val (.long q5), .second, .val (.int f0), .val (.int f1), .val (.int f2), .val (.long u0), .second, .val (.long u1), .second, .val (.long u2), .second, .val (.ref b12), .val (.ref b19), .val (.ref b29), .val (.ref b40), .val (.long x0), .second, .val (.long x1), .second, .val (.long x2), .second, .val (.long y2_), .second, .val (.long y0_), .second, .val (.long (own_ts (((([0, 0, 0, 0, 0, 0, 0, 0, 0, 0, 0, 0, 0, 0, 0, 0] : List Int64).set 0 ev0).set 1 ev1).set 2 ev2) (1 : Int32) q5)), .second] [])) t → Steps p.tables e below (s₁.setTop (entryFrame m #[(.int p1), (.long q2), (.long q3), (.long q4), (.long q5)] maxLocals)) t := fun t k => k144 t (by
    show Steps p.tables e below (T142.setTop (mkF m 232 #[.val (.int p1), .val (.long q2), .second, .val (.long q3), .second, .val (.long q4), .second, .val (.long q5), .second, .val (.int f0), .val (.int f1), .val (.int f2), .val (.long u0), .second, .val (.long u1), .second, .val (.long u2), .second, .val (.ref b12), .val (.ref b19), .val (.ref b29), .val (.ref b40), .val (.long x0), .second, .val (.long x1), .second, .val (.long x2), .second, .val (.long y2_), .second, .val (.long y0_), .second, .unset, .unset] [])) _
    refine XS.aload X142.here hx rfl (hb hby at_232) rfl rfl ?_
    show Steps p.tables e below (T142.setTop (mkF m 234 #[.val (.int p1), .val (.long q2), .second, .val (.long q3), .second, .val (.long q4), .second, .val (.long q5), .second, .val (.int f0), .val (.int f1), .val (.int f2), .val (.long u0), .second, .val (.long u1), .second, .val (.long u2), .second, .val (.ref b12), .val (.ref b19), .val (.ref b29), .val (.ref b40), .val (.long x0), .second, .val (.long x1), .second, .val (.long x2), .second, .val (.long y2_), .second, .val (.long y0_), .second, .unset, .unset] [(.ref b40)])) _
    refine XS.iconst X142.here hx rfl (hb hby at_234) ?_
    show Steps p.tables e below (T142.setTop (mkF m 235 #[.val (.int p1), .val (.long q2), .second, .val (.long q3), .second, .val (.long q4), .second, .val (.long q5), .second, .val (.int f0), .val (.int f1), .val (.int f2), .val (.long u0), .second, .val (.long u1), .second, .val (.long u2), .second, .val (.ref b12), .val (.ref b19), .val (.ref b29), .val (.ref b40), .val (.long x0), .second, .val (.long x1), .second, .val (.long x2), .second, .val (.long y2_), .second, .val (.long y0_), .second, .unset, .unset] [(.int (1 : Int32)), (.ref b40)])) _
    refine XS.lload X142.here hx rfl (hb hby at_235) rfl ?_
    show Steps p.tables e below (T142.setTop (mkF m 237 #[.val (.int p1), .val (.long q2), .second, .val (.long q3), .second, .val (.long q4), .second, .val (.long q5), .second, .val (.int f0), .val (.int f1), .val (.int f2), .val (.long u0), .second, .val (.long u1), .second, .val (.long u2), .second, .val (.ref b12), .val (.ref b19), .val (.ref b29), .val (.ref b40), .val (.long x0), .second, .val (.long x1), .second, .val (.long x2), .second, .val (.long y2_), .second, .val (.long y0_), .second, .unset, .unset] [(.long q5), (.int (1 : Int32)), (.ref b40)])) _
    refine st145.trans ?_
    show Steps p.tables e below (T145.setTop (mkF m 240 #[.val (.int p1), .val (.long q2), .second, .val (.long q3), .second, .val (.long q4), .second, .val (.long q5), .second, .val (.int f0), .val (.int f1), .val (.int f2), .val (.long u0), .second, .val (.long u1), .second, .val (.long u2), .second, .val (.ref b12), .val (.ref b19), .val (.ref b29), .val (.ref b40), .val (.long x0), .second, .val (.long x1), .second, .val (.long x2), .second, .val (.long y2_), .second, .val (.long y0_), .second, .unset, .unset] [(.long (own_ts (((([0, 0, 0, 0, 0, 0, 0, 0, 0, 0, 0, 0, 0, 0, 0, 0] : List Int64).set 0 ev0).set 1 ev1).set 2 ev2) (1 : Int32) q5))])) _
    refine XS.lstore X145.here hx rfl (hb hby at_240) rfl (l' := #[.val (.int p1), .val (.long q2), .second, .val (.long q3), .second, .val (.long q4), .second, .val (.long q5), .second, .val (.int f0), .val (.int f1), .val (.int f2), .val (.long u0), .second, .val (.long u1), .second, .val (.long u2), .second, .val (.ref b12), .val (.ref b19), .val (.ref b29), .val (.ref b40), .val (.long x0), .second, .val (.long x1), .second, .val (.long x2), .second, .val (.long y2_), .second, .val (.long y0_), .second, .val (.long (own_ts (((([0, 0, 0, 0, 0, 0, 0, 0, 0, 0, 0, 0, 0, 0, 0, 0] : List Int64).set 0 ev0).set 1 ev1).set 2 ev2) (1 : Int32) q5)), .second]) rfl ?_
    exact k)
  obtain ⟨y1_, hd_y1_⟩ : ∃ z : Int64, z = (own_ts (((([0, 0, 0, 0, 0, 0, 0, 0, 0, 0, 0, 0, 0, 0, 0, 0] : List Int64).set 0 ev0).set 1 ev1).set 2 ev2) (1 : Int32) q5) := ⟨_, rfl⟩
  have k147 : ∀ t, Steps p.tables e below (T145.setTop (mkF m 242 #[.val (.int p1), .val (.long q2), .second, .val (.long q3), .second, .val (.long q4), .second, .val (.long q5), .second, .val (.int f0), .val (.int f1), .val (.int f2), .val (.long u0), .second, .val (.long u1), .second, .val (.long u2), .second, .val (.ref b12), .val (.ref b19), .val (.ref b29), .val (.ref b40), .val (.long x0), .second, .val (.long x1), .second, .val (.long x2), .second, .val (.long y2_), .second, .val (.long y0_), .second, .val (.long y1_), .second] [])) t → Steps p.tables e below (s₁.setTop (entryFrame m #[(.int p1), (.long q2), (.long q3), (.long q4), (.long q5)] maxLocals)) t := by rw [hd_y1_]; exact k146
  have w0 : y0_ = x0 := by rw [hd_y0_, hd_x0]; exact own_stamp (n := 0) (by decide) hu0 hev0 rfl
  have w1 : y1_ = x1 := by rw [hd_y1_, hd_x1]; exact own_stamp (n := 1) (by decide) hu1 hev1 rfl
  have w2 : y2_ = x2 := by rw [hd_y2_, hd_x2]; exact own_stamp (n := 2) (by decide) hu2 hev2 rfl
  have k149 : ∀ t, Steps p.tables e below (T145.setTop (mkF m 271 #[.val (.int p1), .val (.long q2), .second, .val (.long q3), .second, .val (.long q4), .second, .val (.long q5), .second, .val (.int f0), .val (.int f1), .val (.int f2), .val (.long u0), .second, .val (.long u1), .second, .val (.long u2), .second, .val (.ref b12), .val (.ref b19), .val (.ref b29), .val (.ref b40), .val (.long x0), .second, .val (.long x1), .second, .val (.long x2), .second, .val (.long y2_), .second, .val (.long y0_), .second, .val (.long y1_), .second] [(.int (1 : Int32))])) t → Steps p.tables e below (s₁.setTop (entryFrame m #[(.int p1), (.long q2), (.long q3), (.long q4), (.long q5)] maxLocals)) t := fun t k => k147 t (by
    show Steps p.tables e below (T145.setTop (mkF m 242 #[.val (.int p1), .val (.long q2), .second, .val (.long q3), .second, .val (.long q4), .second, .val (.long q5), .second, .val (.int f0), .val (.int f1), .val (.int f2), .val (.long u0), .second, .val (.long u1), .second, .val (.long u2), .second, .val (.ref b12), .val (.ref b19), .val (.ref b29), .val (.ref b40), .val (.long x0), .second, .val (.long x1), .second, .val (.long x2), .second, .val (.long y2_), .second, .val (.long y0_), .second, .val (.long y1_), .second] [])) _
    refine XS.lload X145.here hx rfl (hb hby at_242) rfl ?_
    show Steps p.tables e below (T145.setTop (mkF m 244 #[.val (.int p1), .val (.long q2), .second, .val (.long q3), .second, .val (.long q4), .second, .val (.long q5), .second, .val (.int f0), .val (.int f1), .val (.int f2), .val (.long u0), .second, .val (.long u1), .second, .val (.long u2), .second, .val (.ref b12), .val (.ref b19), .val (.ref b29), .val (.ref b40), .val (.long x0), .second, .val (.long x1), .second, .val (.long x2), .second, .val (.long y2_), .second, .val (.long y0_), .second, .val (.long y1_), .second] [(.long y0_)])) _
    refine XS.lload X145.here hx rfl (hb hby at_244) rfl ?_
    show Steps p.tables e below (T145.setTop (mkF m 246 #[.val (.int p1), .val (.long q2), .second, .val (.long q3), .second, .val (.long q4), .second, .val (.long q5), .second, .val (.int f0), .val (.int f1), .val (.int f2), .val (.long u0), .second, .val (.long u1), .second, .val (.long u2), .second, .val (.ref b12), .val (.ref b19), .val (.ref b29), .val (.ref b40), .val (.long x0), .second, .val (.long x1), .second, .val (.long x2), .second, .val (.long y2_), .second, .val (.long y0_), .second, .val (.long y1_), .second] [(.long x0), (.long y0_)])) _
    refine XS.lcmp X145.here hx rfl (hb hby at_246) rfl ?_
    show Steps p.tables e below (T145.setTop (mkF m 247 #[.val (.int p1), .val (.long q2), .second, .val (.long q3), .second, .val (.long q4), .second, .val (.long q5), .second, .val (.int f0), .val (.int f1), .val (.int f2), .val (.long u0), .second, .val (.long u1), .second, .val (.long u2), .second, .val (.ref b12), .val (.ref b19), .val (.ref b29), .val (.ref b40), .val (.long x0), .second, .val (.long x1), .second, .val (.long x2), .second, .val (.long y2_), .second, .val (.long y0_), .second, .val (.long y1_), .second] [(.int (lcmpW y0_ x0))])) _
    refine XS.ifNo X145.here hx rfl (hb hby at_247) rfl ((if0 _ _).trans (teq ((lw_eq y0_ x0).mpr w0)).2) ?_
    show Steps p.tables e below (T145.setTop (mkF m 250 #[.val (.int p1), .val (.long q2), .second, .val (.long q3), .second, .val (.long q4), .second, .val (.long q5), .second, .val (.int f0), .val (.int f1), .val (.int f2), .val (.long u0), .second, .val (.long u1), .second, .val (.long u2), .second, .val (.ref b12), .val (.ref b19), .val (.ref b29), .val (.ref b40), .val (.long x0), .second, .val (.long x1), .second, .val (.long x2), .second, .val (.long y2_), .second, .val (.long y0_), .second, .val (.long y1_), .second] [])) _
    refine XS.lload X145.here hx rfl (hb hby at_250) rfl ?_
    show Steps p.tables e below (T145.setTop (mkF m 252 #[.val (.int p1), .val (.long q2), .second, .val (.long q3), .second, .val (.long q4), .second, .val (.long q5), .second, .val (.int f0), .val (.int f1), .val (.int f2), .val (.long u0), .second, .val (.long u1), .second, .val (.long u2), .second, .val (.ref b12), .val (.ref b19), .val (.ref b29), .val (.ref b40), .val (.long x0), .second, .val (.long x1), .second, .val (.long x2), .second, .val (.long y2_), .second, .val (.long y0_), .second, .val (.long y1_), .second] [(.long y1_)])) _
    refine XS.lload X145.here hx rfl (hb hby at_252) rfl ?_
    show Steps p.tables e below (T145.setTop (mkF m 254 #[.val (.int p1), .val (.long q2), .second, .val (.long q3), .second, .val (.long q4), .second, .val (.long q5), .second, .val (.int f0), .val (.int f1), .val (.int f2), .val (.long u0), .second, .val (.long u1), .second, .val (.long u2), .second, .val (.ref b12), .val (.ref b19), .val (.ref b29), .val (.ref b40), .val (.long x0), .second, .val (.long x1), .second, .val (.long x2), .second, .val (.long y2_), .second, .val (.long y0_), .second, .val (.long y1_), .second] [(.long x1), (.long y1_)])) _
    refine XS.lcmp X145.here hx rfl (hb hby at_254) rfl ?_
    show Steps p.tables e below (T145.setTop (mkF m 255 #[.val (.int p1), .val (.long q2), .second, .val (.long q3), .second, .val (.long q4), .second, .val (.long q5), .second, .val (.int f0), .val (.int f1), .val (.int f2), .val (.long u0), .second, .val (.long u1), .second, .val (.long u2), .second, .val (.ref b12), .val (.ref b19), .val (.ref b29), .val (.ref b40), .val (.long x0), .second, .val (.long x1), .second, .val (.long x2), .second, .val (.long y2_), .second, .val (.long y0_), .second, .val (.long y1_), .second] [(.int (lcmpW y1_ x1))])) _
    refine XS.ifNo X145.here hx rfl (hb hby at_255) rfl ((if0 _ _).trans (teq ((lw_eq y1_ x1).mpr w1)).2) ?_
    show Steps p.tables e below (T145.setTop (mkF m 258 #[.val (.int p1), .val (.long q2), .second, .val (.long q3), .second, .val (.long q4), .second, .val (.long q5), .second, .val (.int f0), .val (.int f1), .val (.int f2), .val (.long u0), .second, .val (.long u1), .second, .val (.long u2), .second, .val (.ref b12), .val (.ref b19), .val (.ref b29), .val (.ref b40), .val (.long x0), .second, .val (.long x1), .second, .val (.long x2), .second, .val (.long y2_), .second, .val (.long y0_), .second, .val (.long y1_), .second] [])) _
    refine XS.lload X145.here hx rfl (hb hby at_258) rfl ?_
    show Steps p.tables e below (T145.setTop (mkF m 260 #[.val (.int p1), .val (.long q2), .second, .val (.long q3), .second, .val (.long q4), .second, .val (.long q5), .second, .val (.int f0), .val (.int f1), .val (.int f2), .val (.long u0), .second, .val (.long u1), .second, .val (.long u2), .second, .val (.ref b12), .val (.ref b19), .val (.ref b29), .val (.ref b40), .val (.long x0), .second, .val (.long x1), .second, .val (.long x2), .second, .val (.long y2_), .second, .val (.long y0_), .second, .val (.long y1_), .second] [(.long y2_)])) _
    refine XS.lload X145.here hx rfl (hb hby at_260) rfl ?_
    show Steps p.tables e below (T145.setTop (mkF m 262 #[.val (.int p1), .val (.long q2), .second, .val (.long q3), .second, .val (.long q4), .second, .val (.long q5), .second, .val (.int f0), .val (.int f1), .val (.int f2), .val (.long u0), .second, .val (.long u1), .second, .val (.long u2), .second, .val (.ref b12), .val (.ref b19), .val (.ref b29), .val (.ref b40), .val (.long x0), .second, .val (.long x1), .second, .val (.long x2), .second, .val (.long y2_), .second, .val (.long y0_), .second, .val (.long y1_), .second] [(.long x2), (.long y2_)])) _
    refine XS.lcmp X145.here hx rfl (hb hby at_262) rfl ?_
    show Steps p.tables e below (T145.setTop (mkF m 263 #[.val (.int p1), .val (.long q2), .second, .val (.long q3), .second, .val (.long q4), .second, .val (.long q5), .second, .val (.int f0), .val (.int f1), .val (.int f2), .val (.long u0), .second, .val (.long u1), .second, .val (.long u2), .second, .val (.ref b12), .val (.ref b19), .val (.ref b29), .val (.ref b40), .val (.long x0), .second, .val (.long x1), .second, .val (.long x2), .second, .val (.long y2_), .second, .val (.long y0_), .second, .val (.long y1_), .second] [(.int (lcmpW y2_ x2))])) _
    refine XS.ifNo X145.here hx rfl (hb hby at_263) rfl ((if0 _ _).trans (teq ((lw_eq y2_ x2).mpr w2)).2) ?_
    show Steps p.tables e below (T145.setTop (mkF m 266 #[.val (.int p1), .val (.long q2), .second, .val (.long q3), .second, .val (.long q4), .second, .val (.long q5), .second, .val (.int f0), .val (.int f1), .val (.int f2), .val (.long u0), .second, .val (.long u1), .second, .val (.long u2), .second, .val (.ref b12), .val (.ref b19), .val (.ref b29), .val (.ref b40), .val (.long x0), .second, .val (.long x1), .second, .val (.long x2), .second, .val (.long y2_), .second, .val (.long y0_), .second, .val (.long y1_), .second] [])) _
    refine XS.iconst X145.here hx rfl (hb hby at_266) ?_
    show Steps p.tables e below (T145.setTop (mkF m 267 #[.val (.int p1), .val (.long q2), .second, .val (.long q3), .second, .val (.long q4), .second, .val (.long q5), .second, .val (.int f0), .val (.int f1), .val (.int f2), .val (.long u0), .second, .val (.long u1), .second, .val (.long u2), .second, .val (.ref b12), .val (.ref b19), .val (.ref b29), .val (.ref b40), .val (.long x0), .second, .val (.long x1), .second, .val (.long x2), .second, .val (.long y2_), .second, .val (.long y0_), .second, .val (.long y1_), .second] [(.int (1 : Int32))])) _
    refine XS.goto X145.here hx rfl (pc0 := 267) (pc' := 271) rfl (hb hby at_267) (by decide) (by decide) ?_
    exact k)
  obtain ⟨fs, hr, hrun, hended, hW, hsame⟩ := X145.leave (v := some (.int (1 : Int32))) (fun h => by rw [Bd.returns] at h; cases h) (BodyLoose.notSynchronized Bd)
  refine ⟨_, _, k149 _ ?_, hrun, hended, _, _, rfl, ?_, ⟨_, rfl⟩, hW, hsame.mono (by decide) (by decide)⟩
  · show Steps p.tables e below (T145.setTop (mkF m 271 #[.val (.int p1), .val (.long q2), .second, .val (.long q3), .second, .val (.long q4), .second, .val (.long q5), .second, .val (.int f0), .val (.int f1), .val (.int f2), .val (.long u0), .second, .val (.long u1), .second, .val (.long u2), .second, .val (.ref b12), .val (.ref b19), .val (.ref b29), .val (.ref b40), .val (.long x0), .second, .val (.long x1), .second, .val (.long x2), .second, .val (.long y2_), .second, .val (.long y0_), .second, .val (.long y1_), .second] [(.int (1 : Int32))])) _
    exact retN X145 hx (t := .boolean) Bd.returns (by simp) (hb hby at_271) hr
  ·
    show Qlaw _ p1 q2 q3 q4 q5 w kw h0 n0 _ T145.heap _
    rw [qt1]
    exact ⟨rfl, N145⟩
theorem own_len0 {t : Term} {args : Array Value} {s : State} {a : Addr} {c : Cell} (ev : t.eval args s none [] s = some (.ref a)) (ha : s.arrayAt? a = some c) (h : (Jvm.Cond.eq (.length t) (.int 0)).value args s none s [] = some true) : c.slots.size = 0 := by
  by_cases hl : c.slots.size < 2 ^ 31
  · have e := len_f (t := t) (args := args) (first := s) (o := none) (idx := []) ev ha hl
    have q : c.slots.size.toInt32 = 0 := by
      have hh : (Jvm.Cond.eq (.length t) (.int 0)).value args s none s [] = some (decide (c.slots.size.toInt32 = 0)) := by
        simp only [Cond.value]; rw [e]; rfl
      rw [hh] at h; simpa using h
    have h3 := len_toInt hl
    rw [q] at h3
    have z : (0 : Int32).toInt = 0 := by decide
    omega
  · simp [Cond.value, Term.eval, ev, ha, hl] at h
theorem own_arv0 {s : State} {a : Addr} {c : Cell} (A : Arr s s.heap a c (.object "java/lang/Object")) (h : c.slots.size = 0) : Arv s s.heap a c.cls (.object "java/lang/Object") 0 [] .null :=
  ⟨c, A, rfl, h.trans (by decide), by decide, fun k hk => by omega, fun k hk => by omega⟩
set_option maxRecDepth 65536 in
set_option maxHeartbeats 40000000 in
theorem comes_1 {Post : Tables → Env → Array Value → State → Outcome → State → Prop} (hpost : ∀ tb e args s v u, (limb_1_1.after args s (.returned v) u = true ∧ limb_1_2.after args s (.returned v) u = true ∧ True) → FrameEnd s (.returned v) u (Jvm.fieldLocs frame_1_writes args s ++ Jvm.arrayLocs frame_1_arrays args s ++ Jvm.staticLocs frame_1_statics s) 24 192 → Post tb e args s (.returned v) u) :
    ArmFor flags0 classFile x code maxLocals ret World_1 tables_1 room_1 Calls_1 rest_1 Pre_1 Post := by
  intro l hfl _ _ p e ha hc hk s m args below hf hA hF happ hP
  obtain ⟨hcalls, hrest, hpre⟩ := hP
  obtain ⟨-, -, -, hnamed, -, -, -, hat⟩ := (Spec.applies_iff hf).mp happ
  obtain ⟨hg, hn⟩ := and_e (Cond.before_iff.mp (show (Jvm.Cond.and given_1 narrow_1).before args s = true from hpre))
  obtain ⟨g1, g2⟩ := and_e hg
  obtain ⟨g3, g4⟩ := and_e g2
  obtain ⟨g5, g6⟩ := and_e g4
  obtain ⟨g7, g8⟩ := and_e g6
  obtain ⟨g9, g10⟩ := and_e g8
  obtain ⟨w0, w1, w2, w3, w4, rfl⟩ : ∃ w0 w1 w2 w3 w4 : Value, args = #[w0, w1, w2, w3, w4] := by
    have hs : args.size = 5 := by simpa [Cond.value, given_1] using g1
    obtain ⟨L⟩ := args
    match L, hs with
    | [w0, w1, w2, w3, w4], _ => exact ⟨w0, w1, w2, w3, w4, rfl⟩
  have hw := fun d (hd : d ∈ tables_1) => atoms_spec (ws := Jvm.Cond.code x code maxLocals ret :: tables_1) hat d (List.mem_cons_of_mem _ hd)
  have hfit : Fit s := fun {y c} hc i hi => by
    obtain ⟨ha, rfl⟩ := Array.getElem?_eq_some_iff.mp hc
    have q := List.all_eq_true.mp ((Array.all_eq_true_iff_forall_mem.mp hF) _ (Array.getElem_mem ha)) i (List.mem_range.mpr hi)
    simpa [Array.getElem?_eq_getElem hi] using q
  obtain ⟨hsets, hown0⟩ := atoms_of _ (rest_1_c_eq ▸ (show rest_1_c.before _ s = true from hrest))
  have hr0 := Cond.before_iff.mp hown0
  obtain ⟨i0, ei0⟩ := is_v g3
  obtain rfl : w0 = (.int i0) := Option.some.inj ei0
  obtain ⟨i1, ei1⟩ := isL_v g5
  obtain rfl : w1 = (.long i1) := Option.some.inj ei1
  obtain ⟨i2, ei2⟩ := isL_v g7
  obtain rfl : w2 = (.long i2) := Option.some.inj ei2
  obtain ⟨i3, ei3⟩ := isL_v g9
  obtain rfl : w3 = (.long i3) := Option.some.inj ei3
  obtain ⟨i4, ei4⟩ := isL_v g10
  obtain rfl : w4 = (.long i4) := Option.some.inj ei4
  have z6 := Cond.before_iff.mp (hsets _ (List.mem_of_getElem? (i := 6) rfl))
  obtain ⟨w, ew⟩ := arr_v z6
  have S0 : Sta s s.heap "java/util/ArrayList" "DEFAULTCAPACITY_EMPTY_ELEMENTDATA" "[Ljava/lang/Object;" (.ref w) := Sta.start ew (Or.inr ⟨(hw _ (List.mem_of_getElem? (i := 13) rfl)), (hsets _ (List.mem_of_getElem? (i := 2) rfl))⟩)
  obtain ⟨cw, Aw⟩ := Arr.start ew z6
  have lw := own_len0 ew (Arr.fin (State.Warmed39.refl s).alike Aw) (Cond.before_iff.mp (hsets _ (List.mem_of_getElem? (i := 8) rfl)))
  have A0 := own_arv0 Aw lw
  obtain ⟨n, o, h1, h2, h3, _, L, rfl, ⟨rfl, N⟩, hq⟩ := rm_law l s _ hw tables_1 i0 i1 i2 i3 i4 w cw.cls s.heap s.heap.size (Nat.le_refl _) S0 A0 (Old.start s) p e ha hc hk s m _ below hf ((Spec.applies_iff_loose hf).mp happ).1 ⟨rfl, State.Warmed39.refl s, rfl⟩ trivial
  refine ⟨n, _, h1, h2, h3, hpost _ _ _ _ _ _ ⟨Cond.after_iff.mpr rfl, Cond.after_iff.mpr (eq_i res_at (Term.int_eval (1)) rfl), trivial⟩ ⟨hq.1, hq.2.1, (hq.2.2.sift fun y hy => Or.inr (N y hy)).mono (by decide) (by decide)⟩⟩
theorem main_1_1 : Claimed_1_1 := comes_1 fun _ _ _ _ _ _ h hF => ⟨h.1, hF⟩
theorem main_1_2 : Claimed_1_2 := comes_1 fun _ _ _ _ _ _ h hF => ⟨h.2.1, hF⟩
end Jvm.Pilot.@@N@@
namespace Jvm.Pilot.@@N@@
open Jvm Jvm.ClassFile Sem Op Lib Jvm.Free Jvm.Stand Jvm.Pilot.@@N@@.Jvm.D
/-! MADE BY PROGRAM (witnessworld.py) out of the Statement's table words and the real class files: 24 classes; the members and pool entries that the words name. The judged class is class 1, her method 1. -/
namespace start1
open Jvm.ClassFile
def u (s : String) : CpInfo := .utf8 (stringToUtf16 s)
/-- a pool by its gaps: so many unusable entries, then the entry; so many at the end -/
def gap : Nat → List CpInfo → List CpInfo
  | 0, r => r
  | n + 1, r => .unusable :: gap n r
def poolList (es : List (Nat × CpInfo)) (last : Nat) : List CpInfo := es.foldr (fun e r => gap e.1 (e.2 :: r)) (gap last [])
def pool (es : List (Nat × CpInfo)) (last : Nat) : Array CpInfo := ⟨poolList es last⟩
def fileOf (pool : Array CpInfo) (this : Nat) (attrs : Array Attribute := #[]) (ms : Array MethodInfo := #[]) (fl : Nat := 33) (sup : Nat := 0) (ifs : Array Nat := #[]) (fds : Array FieldInfo := #[]) : ClassFile where
  minorVersion := 0
  majorVersion := 65
  constantPool := pool
  accessFlags := fl
  thisClass := this
  superClass := sup
  interfaces := ifs
  fields := fds
  methods := ms
  attributes := attrs
def plain (name : String) (sup : Option ClassId) : Class where
  name := name
  kind := .ordinary
  loader := none
  accessFlags := 33
  super := sup
  interfaces := #[]
  cf := none
  fields := #[]
  methods := #[]
  instanceTypes := #[]
  staticTypes := #[]
  resolved := #[]
  callSites := []
  init := .initialized
  statics := none
  mirror := none

def pool0 : Array CpInfo := pool [(5, u "<init>"), (0, u "()V"), (1, .class_ 10), (1, u "java/lang/Object")] 113

def k0c0 : Code := { maxStack := 0, maxLocals := 1, code := object_method_1_code, exceptionTable := #[], attributes := #[] }
def k0m0 : Method := { name := "<init>", desc := "()V", sig := { parameters := [], returnType := none }, accessFlags := 1, code := some k0c0 }
/-- java/lang/Object -/
def k0 : Class := { plain "java/lang/Object" none with
  accessFlags := 33
  interfaces := #[]
  cf := some (fileOf pool0 8 #[] #[{ accessFlags := 1, nameIndex := 5, descriptorIndex := 6, attributes := #[] }] 33 0 #[] #[])
  fields := #[]
  methods := #[k0m0]
  instanceTypes := #[]
  staticTypes := #[]
  resolved := Array.replicate 124 none
  statics := none }

def pool1 : Array CpInfo := pool [(2, .class_ 4), (0, .nameAndType 5 6), (0, u "java/lang/Object"), (0, u "<init>"), (0, u "()V"), (2, .long 9223372036854775807), (1, .class_ 12), (0, u "com/example/lumenbus/lumenbus/log/Batch"), (0, .methodref 11 3), (0, .methodref 11 15), (0, .nameAndType 16 17), (0, u "add"), (0, u "(J[B)V"), (0, .methodref 11 19), (0, .nameAndType 16 20), (0, u "([B)V"), (0, .methodref 11 22), (0, .nameAndType 23 24), (0, u "timestamp"), (0, u "(IJ)J"), (0, .class_ 26), (0, u "com/example/lumenbus/lumenbus/log/BatchTimestampPinLaw"), (2, u "law"), (0, u "(IJJJJ)Z")] 5

def k1m0 : Method := { name := "<init>", desc := "()V", sig := { parameters := [], returnType := none }, accessFlags := 1, code := none }
def k1c1 : Code := { maxStack := 4, maxLocals := 34, code := code, exceptionTable := #[], attributes := #[] }
def k1m1 : Method := { name := "law", desc := "(IJJJJ)Z", sig := { parameters := [.int, .long, .long, .long, .long], returnType := some .boolean }, accessFlags := 9, code := some k1c1 }
/-- com/example/lumenbus/lumenbus/log/BatchTimestampPinLaw -/
def k1 : Class := { plain "com/example/lumenbus/lumenbus/log/BatchTimestampPinLaw" (some 0) with
  accessFlags := 49
  interfaces := #[]
  cf := some (fileOf pool1 25 #[] #[{ accessFlags := 1, nameIndex := 5, descriptorIndex := 6, attributes := #[] }, { accessFlags := 9, nameIndex := 29, descriptorIndex := 30, attributes := #[] }] 49 2 #[] #[])
  fields := #[]
  methods := #[k1m0, k1m1]
  instanceTypes := #[]
  staticTypes := #[]
  resolved := Array.replicate 36 none
  statics := none }

def pool2 : Array CpInfo := pool [(1, .methodref 2 3), (0, .class_ 4), (0, .nameAndType 5 6), (0, u "java/lang/Object"), (0, u "<init>"), (0, u "()V"), (0, .class_ 8), (0, u "java/util/ArrayList"), (0, .methodref 7 3), (0, .fieldref 11 12), (0, .class_ 13), (0, .nameAndType 14 15), (0, u "com/example/lumenbus/lumenbus/log/Batch"), (0, u "payloads"), (0, u "Ljava/util/List;"), (0, .fieldref 11 17), (0, .nameAndType 18 19), (0, u "timestamps"), (0, u "[J"), (0, .long 18446744073709551615), (1, .methodref 11 23), (0, .nameAndType 24 25), (0, u "put"), (0, u "(J[B)V"), (0, .methodref 11 27), (0, .nameAndType 28 29), (0, u "checkTimestamp"), (0, u "(J)V"), (9, .interfaceMethodref 40 41), (0, .class_ 42), (0, .nameAndType 43 44), (0, u "java/util/List"), (0, u "size"), (0, u "()I"), (6, .interfaceMethodref 40 52), (0, .nameAndType 53 54), (0, u "add"), (0, u "(Ljava/lang/Object;)Z"), (0, .fieldref 11 56), (0, .nameAndType 57 58), (0, u "bytes"), (0, u "J"), (0, .methodref 60 61), (0, .class_ 62), (0, .nameAndType 63 64), (0, u "com/example/lumenbus/lumenbus/log/Segment"), (0, u "bytesOf"), (0, u "([B)J"), (6, u "appended"), (0, u "I"), (2, u "firstOffset"), (9, u "LOG_CLOCK"), (5, u "([B)V"), (4, u "timestamp"), (0, u "(IJ)J")] 20

def k2c0 : Code := { maxStack := 3, maxLocals := 1, code := prog_31_method_1_code, exceptionTable := #[], attributes := #[] }
def k2m0 : Method := { name := "<init>", desc := "()V", sig := { parameters := [], returnType := none }, accessFlags := 1, code := some k2c0 }
def k2c1 : Code := { maxStack := 4, maxLocals := 2, code := prog_31_method_2_code, exceptionTable := #[], attributes := #[] }
def k2m1 : Method := { name := "add", desc := "([B)V", sig := { parameters := [(.array .byte)], returnType := none }, accessFlags := 1, code := some k2c1 }
def k2c2 : Code := { maxStack := 4, maxLocals := 4, code := prog_31_method_3_code, exceptionTable := #[], attributes := #[] }
def k2m2 : Method := { name := "add", desc := "(J[B)V", sig := { parameters := [.long, (.array .byte)], returnType := none }, accessFlags := 1, code := some k2c2 }
def k2c3 : Code := { maxStack := 4, maxLocals := 2, code := prog_31_method_4_code, exceptionTable := #[], attributes := #[] }
def k2m3 : Method := { name := "checkTimestamp", desc := "(J)V", sig := { parameters := [.long], returnType := none }, accessFlags := 9, code := some k2c3 }
def k2c4 : Code := { maxStack := 5, maxLocals := 4, code := prog_31_method_5_code, exceptionTable := #[], attributes := #[] }
def k2m4 : Method := { name := "put", desc := "(J[B)V", sig := { parameters := [.long, (.array .byte)], returnType := none }, accessFlags := 2, code := some k2c4 }
def k2c5 : Code := { maxStack := 4, maxLocals := 6, code := prog_31_method_13_code, exceptionTable := #[], attributes := #[] }
def k2m5 : Method := { name := "timestamp", desc := "(IJ)J", sig := { parameters := [.int, .long], returnType := some .long }, accessFlags := 0, code := some k2c5 }
/-- com/example/lumenbus/lumenbus/log/Batch -/
def k2 : Class := { plain "com/example/lumenbus/lumenbus/log/Batch" (some 0) with
  accessFlags := 49
  interfaces := #[]
  cf := some (fileOf pool2 11 #[] #[{ accessFlags := 1, nameIndex := 5, descriptorIndex := 6, attributes := #[] }, { accessFlags := 1, nameIndex := 53, descriptorIndex := 91, attributes := #[] }, { accessFlags := 1, nameIndex := 53, descriptorIndex := 25, attributes := #[] }, { accessFlags := 9, nameIndex := 28, descriptorIndex := 29, attributes := #[] }, { accessFlags := 2, nameIndex := 24, descriptorIndex := 25, attributes := #[] }, { accessFlags := 0, nameIndex := 96, descriptorIndex := 97, attributes := #[] }] 49 2 #[] #[{ accessFlags := 26, nameIndex := 85, descriptorIndex := 58, attributes := #[] }, { accessFlags := 18, nameIndex := 14, descriptorIndex := 15, attributes := #[] }, { accessFlags := 2, nameIndex := 18, descriptorIndex := 19, attributes := #[] }, { accessFlags := 2, nameIndex := 57, descriptorIndex := 58, attributes := #[] }, { accessFlags := 2, nameIndex := 75, descriptorIndex := 58, attributes := #[] }, { accessFlags := 2, nameIndex := 71, descriptorIndex := 72, attributes := #[] }])
  fields := #[{ name := "LOG_CLOCK", type := .long, accessFlags := 26, slot := 0, constantValue := 0 }, { name := "payloads", type := (.object "java/util/List"), accessFlags := 18, slot := 0, constantValue := 0 }, { name := "timestamps", type := (.array .long), accessFlags := 2, slot := 1, constantValue := 0 }, { name := "bytes", type := .long, accessFlags := 2, slot := 2, constantValue := 0 }, { name := "firstOffset", type := .long, accessFlags := 2, slot := 3, constantValue := 0 }, { name := "appended", type := .int, accessFlags := 2, slot := 4, constantValue := 0 }]
  methods := #[k2m0, k2m1, k2m2, k2m3, k2m4, k2m5]
  instanceTypes := #[(.object "java/util/List"), (.array .long), .long, .long, .int]
  staticTypes := #[.long]
  resolved := Array.replicate 118 none
  statics := none }

def pool3 : Array CpInfo := pool [(8, .class_ 10), (1, u "java/lang/Iterable"), (24, .class_ 36), (0, u "java/lang/Object")] 25

/-- java/lang/Iterable -/
def k3 : Class := { plain "java/lang/Iterable" (some 0) with
  accessFlags := 1537
  interfaces := #[]
  cf := some (fileOf pool3 8 #[] #[] 1537 35 #[] #[])
  fields := #[]
  methods := #[]
  instanceTypes := #[]
  staticTypes := #[]
  resolved := Array.replicate 62 none
  statics := none }

def pool4 : Array CpInfo := pool [(10, .class_ 12), (1, u "java/util/Collection"), (47, .class_ 61), (0, u "java/lang/Object"), (0, .class_ 63), (0, u "java/lang/Iterable")] 51

/-- java/util/Collection -/
def k4 : Class := { plain "java/util/Collection" (some 0) with
  accessFlags := 1537
  interfaces := #[3]
  cf := some (fileOf pool4 10 #[] #[] 1537 60 #[62] #[])
  fields := #[]
  methods := #[]
  instanceTypes := #[]
  staticTypes := #[]
  resolved := Array.replicate 115 none
  statics := none }

def pool5 : Array CpInfo := pool [(1, .methodref 2 3), (0, .class_ 4), (0, .nameAndType 5 6), (0, u "java/lang/Object"), (0, u "<init>"), (0, u "()V"), (1, .class_ 10), (1, u "java/util/AbstractCollection"), (66, .class_ 78), (0, u "java/util/Collection")] 81

def k5c0 : Code := { maxStack := 1, maxLocals := 1, code := jdk_22_method_1_code, exceptionTable := #[], attributes := #[] }
def k5m0 : Method := { name := "<init>", desc := "()V", sig := { parameters := [], returnType := none }, accessFlags := 4, code := some k5c0 }
/-- java/util/AbstractCollection -/
def k5 : Class := { plain "java/util/AbstractCollection" (some 0) with
  accessFlags := 1057
  interfaces := #[4]
  cf := some (fileOf pool5 8 #[] #[{ accessFlags := 4, nameIndex := 5, descriptorIndex := 6, attributes := #[] }] 1057 2 #[77] #[])
  fields := #[]
  methods := #[k5m0]
  instanceTypes := #[]
  staticTypes := #[]
  resolved := Array.replicate 160 none
  statics := none }

def pool6 : Array CpInfo := pool [(8, .class_ 10), (1, u "java/util/SequencedCollection"), (15, .class_ 27), (0, u "java/lang/Object"), (0, .class_ 29), (0, u "java/util/Collection")] 27

/-- java/util/SequencedCollection -/
def k6 : Class := { plain "java/util/SequencedCollection" (some 0) with
  accessFlags := 1537
  interfaces := #[4]
  cf := some (fileOf pool6 8 #[] #[] 1537 26 #[28] #[])
  fields := #[]
  methods := #[]
  instanceTypes := #[]
  staticTypes := #[]
  resolved := Array.replicate 57 none
  statics := none }

def pool7 : Array CpInfo := pool [(8, .class_ 10), (1, u "java/util/List"), (49, u "add"), (3, u "(Ljava/lang/Object;)Z"), (14, u "size"), (0, u "()I"), (22, .class_ 104), (0, u "java/lang/Object"), (15, .class_ 121), (0, u "java/util/SequencedCollection")] 129

def k7m0 : Method := { name := "size", desc := "()I", sig := { parameters := [], returnType := some .int }, accessFlags := 1025, code := none }
def k7m1 : Method := { name := "add", desc := "(Ljava/lang/Object;)Z", sig := { parameters := [(.object "java/lang/Object")], returnType := some .boolean }, accessFlags := 1025, code := none }
/-- java/util/List -/
def k7 : Class := { plain "java/util/List" (some 0) with
  accessFlags := 1537
  interfaces := #[6]
  cf := some (fileOf pool7 8 #[] #[{ accessFlags := 1025, nameIndex := 79, descriptorIndex := 80, attributes := #[] }, { accessFlags := 1025, nameIndex := 60, descriptorIndex := 64, attributes := #[] }] 1537 103 #[120] #[])
  fields := #[]
  methods := #[k7m0, k7m1]
  instanceTypes := #[]
  staticTypes := #[]
  resolved := Array.replicate 251 none
  statics := none }

def pool8 : Array CpInfo := pool [(1, .methodref 2 3), (0, .class_ 4), (0, .nameAndType 5 6), (0, u "java/util/AbstractCollection"), (0, u "<init>"), (0, u "()V"), (0, .fieldref 8 9), (0, .class_ 10), (0, .nameAndType 11 12), (0, u "java/util/AbstractList"), (0, u "modCount"), (0, u "I"), (64, .class_ 78), (0, u "java/util/AbstractList$Itr"), (3, .class_ 83), (0, u "java/util/AbstractList$ListItr"), (9, .class_ 94), (0, u "java/util/AbstractList$RandomAccessSubList"), (3, .class_ 99), (0, u "java/util/AbstractList$SubList"), (33, .class_ 134), (0, u "java/util/List"), (73, .class_ 209), (0, u "java/util/AbstractList$SubList$1"), (0, .class_ 211), (0, u "java/util/AbstractList$RandomAccessSpliterator")] 6

def k8c0 : Code := { maxStack := 2, maxLocals := 1, code := jdk_39_method_1_code, exceptionTable := #[], attributes := #[] }
def k8m0 : Method := { name := "<init>", desc := "()V", sig := { parameters := [], returnType := none }, accessFlags := 4, code := some k8c0 }
/-- java/util/AbstractList -/
def k8 : Class := { plain "java/util/AbstractList" (some 5) with
  accessFlags := 1057
  interfaces := #[7]
  cf := some (fileOf pool8 8 #[.nestMembers #[93, 98, 208, 210, 82, 77]] #[{ accessFlags := 4, nameIndex := 5, descriptorIndex := 6, attributes := #[] }] 1057 2 #[133] #[{ accessFlags := 132, nameIndex := 11, descriptorIndex := 12, attributes := #[] }])
  fields := #[{ name := "modCount", type := .int, accessFlags := 132, slot := 0, constantValue := 0 }]
  methods := #[k8m0]
  instanceTypes := #[.int]
  staticTypes := #[]
  resolved := Array.replicate 218 none
  statics := none }

def pool9 : Array CpInfo := pool [(1, .class_ 2), (0, u "java/util/RandomAccess"), (0, .class_ 4), (0, u "java/lang/Object")] 2

/-- java/util/RandomAccess -/
def k9 : Class := { plain "java/util/RandomAccess" (some 0) with
  accessFlags := 1537
  interfaces := #[]
  cf := some (fileOf pool9 1 #[] #[] 1537 3 #[] #[])
  fields := #[]
  methods := #[]
  instanceTypes := #[]
  staticTypes := #[]
  resolved := Array.replicate 7 none
  statics := none }

def pool10 : Array CpInfo := pool [(1, .class_ 2), (0, u "java/lang/Cloneable"), (0, .class_ 4), (0, u "java/lang/Object")] 2

/-- java/lang/Cloneable -/
def k10 : Class := { plain "java/lang/Cloneable" (some 0) with
  accessFlags := 1537
  interfaces := #[]
  cf := some (fileOf pool10 1 #[] #[] 1537 3 #[] #[])
  fields := #[]
  methods := #[]
  instanceTypes := #[]
  staticTypes := #[]
  resolved := Array.replicate 7 none
  statics := none }

def pool11 : Array CpInfo := pool [(1, .class_ 2), (0, u "java/io/Serializable"), (0, .class_ 4), (0, u "java/lang/Object")] 2

/-- java/io/Serializable -/
def k11 : Class := { plain "java/io/Serializable" (some 0) with
  accessFlags := 1537
  interfaces := #[]
  cf := some (fileOf pool11 1 #[] #[] 1537 3 #[] #[])
  fields := #[]
  methods := #[]
  instanceTypes := #[]
  staticTypes := #[]
  resolved := Array.replicate 7 none
  statics := none }

def pool12 : Array CpInfo := pool [(1, .methodref 2 3), (0, .class_ 4), (0, .nameAndType 5 6), (0, u "java/util/AbstractList"), (0, u "<init>"), (0, u "()V"), (0, .class_ 8), (0, u "java/lang/Object"), (0, .fieldref 10 11), (0, .class_ 12), (0, .nameAndType 13 14), (0, u "java/util/ArrayList"), (0, u "elementData"), (0, u "[Ljava/lang/Object;"), (2, u "EMPTY_ELEMENTDATA"), (21, .fieldref 10 40), (0, .nameAndType 41 14), (0, u "DEFAULTCAPACITY_EMPTY_ELEMENTDATA"), (5, u "()[Ljava/lang/Object;"), (0, .fieldref 10 49), (0, .nameAndType 50 51), (0, u "size"), (0, u "I"), (11, .fieldref 10 64), (0, .nameAndType 65 51), (0, u "modCount"), (3, .methodref 10 70), (0, .nameAndType 71 72), (0, u "grow"), (0, u "(I)[Ljava/lang/Object;"), (6, .methodref 80 81), (0, .class_ 82), (0, .nameAndType 83 84), (0, u "java/lang/Math"), (0, u "max"), (0, u "(II)I"), (11, u "(Ljava/lang/Object;)Z"), (32, .methodref 10 130), (0, .nameAndType 71 47), (0, .methodref 10 132), (0, .nameAndType 133 134), (0, u "add"), (0, u "(Ljava/lang/Object;[Ljava/lang/Object;I)V"), (13, .class_ 149), (0, u "java/util/List"), (36, u "()I"), (75, .class_ 263), (0, u "java/util/ArrayList$ListItr"), (3, .class_ 268), (0, u "java/util/ArrayList$Itr"), (7, .class_ 277), (0, u "java/util/ArrayList$SubList"), (12, .class_ 291), (0, u "java/util/ArrayList$ArrayListSpliterator"), (37, .class_ 330), (0, u "java/util/RandomAccess"), (0, .class_ 332), (0, u "java/lang/Cloneable"), (0, .class_ 334), (0, u "java/io/Serializable"), (0, u "serialVersionUID"), (0, u "J"), (3, u "DEFAULT_CAPACITY"), (159, .class_ 501), (0, u "java/util/ArrayList$SubList$2"), (0, .class_ 503), (0, u "java/util/ArrayList$SubList$1")] 5

def k12c0 : Code := { maxStack := 2, maxLocals := 1, code := jdk_38_method_2_code, exceptionTable := #[], attributes := #[] }
def k12m0 : Method := { name := "<init>", desc := "()V", sig := { parameters := [], returnType := none }, accessFlags := 1, code := some k12c0 }
def k12c1 : Code := { maxStack := 4, maxLocals := 4, code := jdk_38_method_6_code, exceptionTable := #[], attributes := #[] }
def k12m1 : Method := { name := "grow", desc := "(I)[Ljava/lang/Object;", sig := { parameters := [.int], returnType := some (.array (.object "java/lang/Object")) }, accessFlags := 2, code := some k12c1 }
def k12c2 : Code := { maxStack := 3, maxLocals := 1, code := jdk_38_method_7_code, exceptionTable := #[], attributes := #[] }
def k12m2 : Method := { name := "grow", desc := "()[Ljava/lang/Object;", sig := { parameters := [], returnType := some (.array (.object "java/lang/Object")) }, accessFlags := 2, code := some k12c2 }
def k12c3 : Code := { maxStack := 1, maxLocals := 1, code := jdk_38_method_8_code, exceptionTable := #[], attributes := #[] }
def k12m3 : Method := { name := "size", desc := "()I", sig := { parameters := [], returnType := some .int }, accessFlags := 1, code := some k12c3 }
def k12c4 : Code := { maxStack := 3, maxLocals := 4, code := jdk_38_method_24_code, exceptionTable := #[], attributes := #[] }
def k12m4 : Method := { name := "add", desc := "(Ljava/lang/Object;[Ljava/lang/Object;I)V", sig := { parameters := [(.object "java/lang/Object"), (.array (.object "java/lang/Object")), .int], returnType := none }, accessFlags := 2, code := some k12c4 }
def k12c5 : Code := { maxStack := 4, maxLocals := 2, code := jdk_38_method_25_code, exceptionTable := #[], attributes := #[] }
def k12m5 : Method := { name := "add", desc := "(Ljava/lang/Object;)Z", sig := { parameters := [(.object "java/lang/Object")], returnType := some .boolean }, accessFlags := 1, code := some k12c5 }
/-- java/util/ArrayList -/
def k12 : Class := { plain "java/util/ArrayList" (some 8) with
  accessFlags := 33
  interfaces := #[7, 9, 10, 11]
  cf := some (fileOf pool12 10 #[.nestMembers #[290, 276, 500, 502, 262, 267]] #[{ accessFlags := 1, nameIndex := 5, descriptorIndex := 6, attributes := #[] }, { accessFlags := 2, nameIndex := 71, descriptorIndex := 72, attributes := #[] }, { accessFlags := 2, nameIndex := 71, descriptorIndex := 47, attributes := #[] }, { accessFlags := 1, nameIndex := 50, descriptorIndex := 186, attributes := #[] }, { accessFlags := 2, nameIndex := 133, descriptorIndex := 134, attributes := #[] }, { accessFlags := 1, nameIndex := 133, descriptorIndex := 96, attributes := #[] }] 33 2 #[148, 329, 331, 333] #[{ accessFlags := 26, nameIndex := 335, descriptorIndex := 336, attributes := #[] }, { accessFlags := 26, nameIndex := 340, descriptorIndex := 51, attributes := #[] }, { accessFlags := 26, nameIndex := 17, descriptorIndex := 14, attributes := #[] }, { accessFlags := 26, nameIndex := 41, descriptorIndex := 14, attributes := #[] }, { accessFlags := 128, nameIndex := 13, descriptorIndex := 14, attributes := #[] }, { accessFlags := 2, nameIndex := 50, descriptorIndex := 51, attributes := #[] }])
  fields := #[{ name := "serialVersionUID", type := .long, accessFlags := 26, slot := 0, constantValue := 0 }, { name := "DEFAULT_CAPACITY", type := .int, accessFlags := 26, slot := 1, constantValue := 0 }, { name := "EMPTY_ELEMENTDATA", type := (.array (.object "java/lang/Object")), accessFlags := 26, slot := 2, constantValue := 0 }, { name := "DEFAULTCAPACITY_EMPTY_ELEMENTDATA", type := (.array (.object "java/lang/Object")), accessFlags := 26, slot := 3, constantValue := 0 }, { name := "elementData", type := (.array (.object "java/lang/Object")), accessFlags := 128, slot := 1, constantValue := 0 }, { name := "size", type := .int, accessFlags := 2, slot := 2, constantValue := 0 }]
  methods := #[k12m0, k12m1, k12m2, k12m3, k12m4, k12m5]
  instanceTypes := #[.int, (.array (.object "java/lang/Object")), .int]
  staticTypes := #[.long, .int, (.array (.object "java/lang/Object")), (.array (.object "java/lang/Object"))]
  resolved := Array.replicate 509 none
  statics := some 0 }

def pool13 : Array CpInfo := pool [(1, .class_ 2), (0, u "java/lang/Math"), (1, .class_ 6), (1, u "java/lang/Object"), (0, u "<init>"), (0, u "()V"), (89, .class_ 100), (1, u "java/lang/Math$RandomNumberGeneratorHolder"), (71, u "negativeZeroFloatBits"), (0, u "J"), (2, u "negativeZeroDoubleBits"), (21, u "max"), (46, u "$assertionsDisabled"), (0, u "Z"), (88, u "(II)I"), (2, u "twoToTheDoubleScaleDown"), (0, u "D"), (4, u "twoToTheDoubleScaleUp"), (9, u "E"), (3, u "PI"), (2, u "TAU"), (2, u "DEGREES_TO_RADIANS"), (0, u "RADIANS_TO_DEGREES")] 94

def k13m0 : Method := { name := "<init>", desc := "()V", sig := { parameters := [], returnType := none }, accessFlags := 2, code := none }
def k13c1 : Code := { maxStack := 2, maxLocals := 2, code := jdk_29_method_65_code, exceptionTable := #[], attributes := #[] }
def k13m1 : Method := { name := "max", desc := "(II)I", sig := { parameters := [.int, .int], returnType := some .int }, accessFlags := 9, code := some k13c1 }
/-- java/lang/Math -/
def k13 : Class := { plain "java/lang/Math" (some 0) with
  accessFlags := 49
  interfaces := #[]
  cf := some (fileOf pool13 1 #[.nestMembers #[98]] #[{ accessFlags := 2, nameIndex := 7, descriptorIndex := 8, attributes := #[] }, { accessFlags := 9, nameIndex := 198, descriptorIndex := 335, attributes := #[] }] 49 4 #[] #[{ accessFlags := 25, nameIndex := 354, descriptorIndex := 339, attributes := #[] }, { accessFlags := 25, nameIndex := 358, descriptorIndex := 339, attributes := #[] }, { accessFlags := 25, nameIndex := 361, descriptorIndex := 339, attributes := #[] }, { accessFlags := 26, nameIndex := 364, descriptorIndex := 339, attributes := #[] }, { accessFlags := 26, nameIndex := 365, descriptorIndex := 339, attributes := #[] }, { accessFlags := 26, nameIndex := 172, descriptorIndex := 173, attributes := #[] }, { accessFlags := 26, nameIndex := 176, descriptorIndex := 173, attributes := #[] }, { accessFlags := 8, nameIndex := 344, descriptorIndex := 339, attributes := #[] }, { accessFlags := 8, nameIndex := 338, descriptorIndex := 339, attributes := #[] }, { accessFlags := 4120, nameIndex := 245, descriptorIndex := 246, attributes := #[] }])
  fields := #[{ name := "E", type := .double, accessFlags := 25, slot := 0, constantValue := 0 }, { name := "PI", type := .double, accessFlags := 25, slot := 1, constantValue := 0 }, { name := "TAU", type := .double, accessFlags := 25, slot := 2, constantValue := 0 }, { name := "DEGREES_TO_RADIANS", type := .double, accessFlags := 26, slot := 3, constantValue := 0 }, { name := "RADIANS_TO_DEGREES", type := .double, accessFlags := 26, slot := 4, constantValue := 0 }, { name := "negativeZeroFloatBits", type := .long, accessFlags := 26, slot := 5, constantValue := 0 }, { name := "negativeZeroDoubleBits", type := .long, accessFlags := 26, slot := 6, constantValue := 0 }, { name := "twoToTheDoubleScaleUp", type := .double, accessFlags := 8, slot := 7, constantValue := 0 }, { name := "twoToTheDoubleScaleDown", type := .double, accessFlags := 8, slot := 8, constantValue := 0 }, { name := "$assertionsDisabled", type := .boolean, accessFlags := 4120, slot := 9, constantValue := 0 }]
  methods := #[k13m0, k13m1]
  instanceTypes := #[]
  staticTypes := #[.double, .double, .double, .double, .double, .long, .long, .double, .double, .boolean]
  resolved := Array.replicate 460 none
  statics := none }

def pool14 : Array CpInfo := pool [(1, .class_ 2), (0, u "java/lang/AutoCloseable"), (0, .class_ 4), (0, u "java/lang/Object")] 7

/-- java/lang/AutoCloseable -/
def k14 : Class := { plain "java/lang/AutoCloseable" (some 0) with
  accessFlags := 1537
  interfaces := #[]
  cf := some (fileOf pool14 1 #[] #[] 1537 3 #[] #[])
  fields := #[]
  methods := #[]
  instanceTypes := #[]
  staticTypes := #[]
  resolved := Array.replicate 12 none
  statics := none }

def pool15 : Array CpInfo := pool [(1, .class_ 2), (0, u "java/io/Closeable"), (0, .class_ 4), (0, u "java/lang/Object"), (0, .class_ 6), (0, u "java/lang/AutoCloseable")] 7

/-- java/io/Closeable -/
def k15 : Class := { plain "java/io/Closeable" (some 0) with
  accessFlags := 1537
  interfaces := #[14]
  cf := some (fileOf pool15 1 #[] #[] 1537 3 #[5] #[])
  fields := #[]
  methods := #[]
  instanceTypes := #[]
  staticTypes := #[]
  resolved := Array.replicate 14 none
  statics := none }

def pool16 : Array CpInfo := pool [(4, .class_ 6), (1, u "java/lang/Object"), (6, .class_ 15), (1, u "com/example/lumenbus/lumenbus/log/Segment"), (0, u "damage"), (0, u "Ljava/util/NavigableMap;"), (2, u "topic"), (0, u "Lcom/example/lumenbus/lumenbus/log/Topic;"), (8, u "file"), (0, u "Ljava/nio/file/Path;"), (2, u "logFile"), (0, u "Lcom/example/lumenbus/lumenbus/log/SegmentFile;"), (2, u "baseOffset"), (0, u "J"), (2, u "endOffset"), (11, u "index"), (0, u "Lcom/example/lumenbus/lumenbus/log/SegmentIndex;"), (2, u "notes"), (0, u "Ljava/util/function/Consumer;"), (79, u "records"), (4, u "size"), (53, .class_ 199), (0, u "com/example/lumenbus/lumenbus/log/Segment$Reader"), (15, .class_ 217), (1, u "com/example/lumenbus/lumenbus/log/Segment$Header"), (21, .class_ 240), (0, u "com/example/lumenbus/lumenbus/log/Segment$Damage"), (52, .long 24), (57, u "bytesOf"), (0, u "([B)J"), (16, .class_ 370), (0, u "com/example/lumenbus/lumenbus/log/Segment$Range"), (10, .class_ 382), (0, u "com/example/lumenbus/lumenbus/log/Segment$1"), (14, .class_ 398), (0, u "com/example/lumenbus/lumenbus/log/Segment$TimeSearch"), (34, .class_ 435), (1, u "com/example/lumenbus/lumenbus/log/Segment$Visitor"), (49, u "LOG_FILE"), (0, u "Ljava/util/regex/Pattern;"), (24, .class_ 512), (0, u "java/io/Closeable"), (0, u "HEADER_BYTES"), (0, u "I"), (2, u "READ_BUFFER_BYTES"), (1, u "OPEN_END"), (44, .class_ 565), (0, u "com/example/lumenbus/lumenbus/log/Segment$Claim"), (0, .class_ 567), (0, u "com/example/lumenbus/lumenbus/log/Segment$Found")] 61

def k16c0 : Code := { maxStack := 4, maxLocals := 1, code := prog_45_method_11_code, exceptionTable := #[], attributes := #[] }
def k16m0 : Method := { name := "bytesOf", desc := "([B)J", sig := { parameters := [(.array .byte)], returnType := some .long }, accessFlags := 8, code := some k16c0 }
/-- com/example/lumenbus/lumenbus/log/Segment -/
def k16 : Class := { plain "com/example/lumenbus/lumenbus/log/Segment" (some 0) with
  accessFlags := 48
  interfaces := #[15]
  cf := some (fileOf pool16 13 #[.nestMembers #[198, 564, 215, 566, 239, 397, 433, 369, 381]] #[{ accessFlags := 8, nameIndex := 351, descriptorIndex := 352, attributes := #[] }] 48 4 #[511] #[{ accessFlags := 26, nameIndex := 513, descriptorIndex := 514, attributes := #[] }, { accessFlags := 26, nameIndex := 517, descriptorIndex := 514, attributes := #[] }, { accessFlags := 26, nameIndex := 519, descriptorIndex := 39, attributes := #[] }, { accessFlags := 26, nameIndex := 485, descriptorIndex := 486, attributes := #[] }, { accessFlags := 18, nameIndex := 20, descriptorIndex := 21, attributes := #[] }, { accessFlags := 18, nameIndex := 30, descriptorIndex := 31, attributes := #[] }, { accessFlags := 18, nameIndex := 34, descriptorIndex := 35, attributes := #[] }, { accessFlags := 18, nameIndex := 38, descriptorIndex := 39, attributes := #[] }, { accessFlags := 18, nameIndex := 54, descriptorIndex := 55, attributes := #[] }, { accessFlags := 18, nameIndex := 58, descriptorIndex := 59, attributes := #[] }, { accessFlags := 18, nameIndex := 42, descriptorIndex := 39, attributes := #[] }, { accessFlags := 2, nameIndex := 139, descriptorIndex := 39, attributes := #[] }, { accessFlags := 2, nameIndex := 144, descriptorIndex := 39, attributes := #[] }, { accessFlags := 18, nameIndex := 16, descriptorIndex := 17, attributes := #[] }])
  fields := #[{ name := "HEADER_BYTES", type := .int, accessFlags := 26, slot := 0, constantValue := 0 }, { name := "READ_BUFFER_BYTES", type := .int, accessFlags := 26, slot := 1, constantValue := 0 }, { name := "OPEN_END", type := .long, accessFlags := 26, slot := 2, constantValue := 0 }, { name := "LOG_FILE", type := (.object "java/util/regex/Pattern"), accessFlags := 26, slot := 3, constantValue := 0 }, { name := "topic", type := (.object "com/example/lumenbus/lumenbus/log/Topic"), accessFlags := 18, slot := 0, constantValue := 0 }, { name := "file", type := (.object "java/nio/file/Path"), accessFlags := 18, slot := 1, constantValue := 0 }, { name := "logFile", type := (.object "com/example/lumenbus/lumenbus/log/SegmentFile"), accessFlags := 18, slot := 2, constantValue := 0 }, { name := "baseOffset", type := .long, accessFlags := 18, slot := 3, constantValue := 0 }, { name := "index", type := (.object "com/example/lumenbus/lumenbus/log/SegmentIndex"), accessFlags := 18, slot := 4, constantValue := 0 }, { name := "notes", type := (.object "java/util/function/Consumer"), accessFlags := 18, slot := 5, constantValue := 0 }, { name := "endOffset", type := .long, accessFlags := 18, slot := 6, constantValue := 0 }, { name := "records", type := .long, accessFlags := 2, slot := 7, constantValue := 0 }, { name := "size", type := .long, accessFlags := 2, slot := 8, constantValue := 0 }, { name := "damage", type := (.object "java/util/NavigableMap"), accessFlags := 18, slot := 9, constantValue := 0 }]
  methods := #[k16m0]
  instanceTypes := #[(.object "com/example/lumenbus/lumenbus/log/Topic"), (.object "java/nio/file/Path"), (.object "com/example/lumenbus/lumenbus/log/SegmentFile"), .long, (.object "com/example/lumenbus/lumenbus/log/SegmentIndex"), (.object "java/util/function/Consumer"), .long, .long, .long, (.object "java/util/NavigableMap")]
  staticTypes := #[.int, .int, .long, (.object "java/util/regex/Pattern")]
  resolved := Array.replicate 629 none
  statics := none }

/-- the primitive byte -/
def k17 : Class := { plain "byte" none with kind := .primitive 'B', accessFlags := 0x411 }
/-- [B -/
def k18 : Class := { plain "[B" (some 0) with kind := .array 17 .byte, interfaces := #[10, 11], accessFlags := 1041 }

/-- the primitive int -/
def k19 : Class := { plain "int" none with kind := .primitive 'I', accessFlags := 0x411 }
/-- [I -/
def k20 : Class := { plain "[I" (some 0) with kind := .array 19 .int, interfaces := #[10, 11], accessFlags := 1041 }

/-- the primitive long -/
def k21 : Class := { plain "long" none with kind := .primitive 'J', accessFlags := 0x411 }
/-- [J -/
def k22 : Class := { plain "[J" (some 0) with kind := .array 21 .long, interfaces := #[10, 11], accessFlags := 1041 }

/-- [Ljava/lang/Object; -/
def k23 : Class := { plain "[Ljava/lang/Object;" (some 0) with kind := .array 0 (.object "java/lang/Object"), interfaces := #[10, 11], accessFlags := 1041 }

def heap : Heap := #[{ cls := 12, slots := #[.long 0, .int 0, .ref 1, .ref 2], vm := .statics 12 },
  { cls := 23, slots := #[], vm := .none },
  { cls := 23, slots := #[], vm := .none }]
def classes : Array Class := #[k0, k1, k2, k3, k4, k5, k6, k7, k8, k9, k10, k11, k12, k13, k14, k15, k16, k17, k18, k19, k20, k21, k22, k23]
def interned : List (Array UInt16 × Addr) := []
def slotsUsed : Nat := 4
def theMethod : MethodId := ⟨1, 1⟩
def args0 : Array Value := #[.int 5, .long 7, .long 8, .long 9, .long 10]
def aboutOver (below : List Frame) : State where
  vm := { classes := classes, interned := interned.toArray }
  heap := heap
  slotsUsed := slotsUsed
  threads := #[{ frames := .invoking theMethod args0 :: below }]
def below0 : List Frame := [.native { method := ⟨0, 0⟩, args := #[] }]
def about1 : State := aboutOver below0
def p0 : Program := .bare "" "" ""
def e0 : Env := launch0.env 0 0 0
theorem w_frames : about1.frames = Frame.invoking theMethod args0 :: below0 := rfl
set_option maxRecDepth 65536 in
theorem w_args : argsFit about1.vm theMethod args0 = true := by decide +kernel
set_option maxRecDepth 65536 in
theorem w_heap : heapFits about1 = true := by decide +kernel
set_option maxRecDepth 65536 in
theorem w_runnable : about1.curStatus? = some .runnable := by decide +kernel
set_option maxRecDepth 65536 in
theorem w_alone : about1.alone = true := by decide +kernel
set_option maxRecDepth 65536 in
theorem w_named : about1.methodNamed? x = some theMethod := by decide +kernel
set_option maxRecDepth 65536 in
theorem w_hears : about1.hears theMethod below0 = true := by decide +kernel
set_option maxRecDepth 65536 in
theorem w_ripe : about1.ripe theMethod args0 below0 = true := by decide +kernel
theorem w_running : about1.status = .running := rfl
set_option maxRecDepth 65536 in
theorem w_room : about1.hasRoom e0.platform room_1 = true :=
  launch0.hasRoom_least _ room_1 (by decide +kernel) (by decide +kernel) (by decide +kernel) (by decide +kernel) (by decide +kernel) (by decide +kernel)
theorem allAtoms_all (ts : List Jvm.Cond) (a : Array Jvm.Value) (st : Jvm.State) : (allAtoms ts).before a st = ts.all (fun c => c.before a st) := by
  induction ts with
  | nil => rfl
  | cons c t ih =>
    show (Jvm.Cond.and c (allAtoms t)).before a st = _
    rw [Jvm.Cond.before_and, ih, List.all_cons]
def words1 : List Jvm.Cond := Jvm.Cond.code x code maxLocals ret :: tables_1
/-- a 'code' word, met by the world's own term for the bytes: nothing is compared byte by byte -/
theorem code_word {y : MethodName} {bytes : ByteArray} {mx : Nat} {rt : Option FieldType} {a : Array Value} {s : State} {m : MethodId} {meth : Method} {c : Code} (h1 : s.methodNamed? y = some m) (h2 : s.vm.method? m = some meth) (h3 : meth.code = some c) (h4 : c.code = bytes)
    (h5 : (c.maxLocals == mx && c.exceptionTable.isEmpty && decide (c.maxStack ≤ mostOperands) && decide (meth.sig.returnType = rt) && !meth.locks && decide (parseMethodDescriptor y.desc = some meth.sig)) = true) : (Jvm.Cond.code y bytes mx rt).before a s = true := by
  simp only [Bool.and_eq_true, beq_iff_eq, Bool.not_eq_true', decide_eq_true_eq] at h5
  obtain ⟨⟨⟨⟨⟨g1, g2⟩, g3⟩, g4⟩, g5⟩, g6⟩ := h5
  simp [Cond.before, Cond.holds, Cond.value, h1, h2, h3, h4, g1, g2, g3, g4, g5, g6]
def isCode : Jvm.Cond → Bool
  | .code _ _ _ _ => true
  | _ => false
theorem all_split {L : List Jvm.Cond} {P : Jvm.Cond → Bool} (h1 : L.all (fun c => isCode c || P c) = true) (h2 : ∀ c ∈ L.filter isCode, P c = true) : L.all P = true := by
  refine List.all_eq_true.mpr fun c hc => ?_
  have h := List.all_eq_true.mp h1 c hc
  rcases Bool.eq_false_or_eq_true (isCode c) with hi | hi
  · exact h2 c (List.mem_filter.mpr ⟨hc, hi⟩)
  · simpa [hi] using h
set_option maxRecDepth 65536 in
theorem w_c0 : (Jvm.Cond.code x code maxLocals ret).before args0 about1 = true := code_word (m := ⟨1, 1⟩) (meth := k1m1) (c := k1c1) (by decide +kernel) rfl rfl rfl (by decide +kernel)
set_option maxRecDepth 65536 in
theorem w_c1 : (Jvm.Cond.code ({ cls := "com/example/lumenbus/lumenbus/log/Batch", name := "<init>", desc := "()V" } : Jvm.MethodName) prog_31_method_1_code (1 : Nat) (Option.none : Option Jvm.ClassFile.FieldType)).before args0 about1 = true := code_word (m := ⟨2, 0⟩) (meth := k2m0) (c := k2c0) (by decide +kernel) rfl rfl rfl (by decide +kernel)
set_option maxRecDepth 65536 in
theorem w_c2 : (Jvm.Cond.code ({ cls := "java/lang/Object", name := "<init>", desc := "()V" } : Jvm.MethodName) object_method_1_code (1 : Nat) (Option.none : Option Jvm.ClassFile.FieldType)).before args0 about1 = true := code_word (m := ⟨0, 0⟩) (meth := k0m0) (c := k0c0) (by decide +kernel) rfl rfl rfl (by decide +kernel)
set_option maxRecDepth 65536 in
theorem w_c3 : (Jvm.Cond.code ({ cls := "java/util/ArrayList", name := "<init>", desc := "()V" } : Jvm.MethodName) jdk_38_method_2_code (1 : Nat) (Option.none : Option Jvm.ClassFile.FieldType)).before args0 about1 = true := code_word (m := ⟨12, 0⟩) (meth := k12m0) (c := k12c0) (by decide +kernel) rfl rfl rfl (by decide +kernel)
set_option maxRecDepth 65536 in
theorem w_c4 : (Jvm.Cond.code ({ cls := "java/util/AbstractList", name := "<init>", desc := "()V" } : Jvm.MethodName) jdk_39_method_1_code (1 : Nat) (Option.none : Option Jvm.ClassFile.FieldType)).before args0 about1 = true := code_word (m := ⟨8, 0⟩) (meth := k8m0) (c := k8c0) (by decide +kernel) rfl rfl rfl (by decide +kernel)
set_option maxRecDepth 65536 in
theorem w_c5 : (Jvm.Cond.code ({ cls := "java/util/AbstractCollection", name := "<init>", desc := "()V" } : Jvm.MethodName) jdk_22_method_1_code (1 : Nat) (Option.none : Option Jvm.ClassFile.FieldType)).before args0 about1 = true := code_word (m := ⟨5, 0⟩) (meth := k5m0) (c := k5c0) (by decide +kernel) rfl rfl rfl (by decide +kernel)
set_option maxRecDepth 65536 in
theorem w_c6 : (Jvm.Cond.code ({ cls := "com/example/lumenbus/lumenbus/log/Batch", name := "add", desc := "([B)V" } : Jvm.MethodName) prog_31_method_2_code (2 : Nat) (Option.none : Option Jvm.ClassFile.FieldType)).before args0 about1 = true := code_word (m := ⟨2, 1⟩) (meth := k2m1) (c := k2c1) (by decide +kernel) rfl rfl rfl (by decide +kernel)
set_option maxRecDepth 65536 in
theorem w_c7 : (Jvm.Cond.code ({ cls := "com/example/lumenbus/lumenbus/log/Batch", name := "put", desc := "(J[B)V" } : Jvm.MethodName) prog_31_method_5_code (4 : Nat) (Option.none : Option Jvm.ClassFile.FieldType)).before args0 about1 = true := code_word (m := ⟨2, 4⟩) (meth := k2m4) (c := k2c4) (by decide +kernel) rfl rfl rfl (by decide +kernel)
set_option maxRecDepth 65536 in
theorem w_c8 : (Jvm.Cond.code ({ cls := "java/util/ArrayList", name := "size", desc := "()I" } : Jvm.MethodName) jdk_38_method_8_code (1 : Nat) (Option.some Jvm.ClassFile.FieldType.int)).before args0 about1 = true := code_word (m := ⟨12, 3⟩) (meth := k12m3) (c := k12c3) (by decide +kernel) rfl rfl rfl (by decide +kernel)
set_option maxRecDepth 65536 in
theorem w_c9 : (Jvm.Cond.code ({ cls := "java/util/ArrayList", name := "add", desc := "(Ljava/lang/Object;)Z" } : Jvm.MethodName) jdk_38_method_25_code (2 : Nat) (Option.some Jvm.ClassFile.FieldType.boolean)).before args0 about1 = true := code_word (m := ⟨12, 5⟩) (meth := k12m5) (c := k12c5) (by decide +kernel) rfl rfl rfl (by decide +kernel)
set_option maxRecDepth 65536 in
theorem w_c10 : (Jvm.Cond.code ({ cls := "java/util/ArrayList", name := "add", desc := "(Ljava/lang/Object;[Ljava/lang/Object;I)V" } : Jvm.MethodName) jdk_38_method_24_code (4 : Nat) (Option.none : Option Jvm.ClassFile.FieldType)).before args0 about1 = true := code_word (m := ⟨12, 4⟩) (meth := k12m4) (c := k12c4) (by decide +kernel) rfl rfl rfl (by decide +kernel)
set_option maxRecDepth 65536 in
theorem w_c11 : (Jvm.Cond.code ({ cls := "java/util/ArrayList", name := "grow", desc := "()[Ljava/lang/Object;" } : Jvm.MethodName) jdk_38_method_7_code (1 : Nat) (Option.some (Jvm.ClassFile.FieldType.array (Jvm.ClassFile.FieldType.object "java/lang/Object")))).before args0 about1 = true := code_word (m := ⟨12, 2⟩) (meth := k12m2) (c := k12c2) (by decide +kernel) rfl rfl rfl (by decide +kernel)
set_option maxRecDepth 65536 in
theorem w_c12 : (Jvm.Cond.code ({ cls := "java/util/ArrayList", name := "grow", desc := "(I)[Ljava/lang/Object;" } : Jvm.MethodName) jdk_38_method_6_code (4 : Nat) (Option.some (Jvm.ClassFile.FieldType.array (Jvm.ClassFile.FieldType.object "java/lang/Object")))).before args0 about1 = true := code_word (m := ⟨12, 1⟩) (meth := k12m1) (c := k12c1) (by decide +kernel) rfl rfl rfl (by decide +kernel)
set_option maxRecDepth 65536 in
theorem w_c13 : (Jvm.Cond.code ({ cls := "java/lang/Math", name := "max", desc := "(II)I" } : Jvm.MethodName) jdk_29_method_65_code (2 : Nat) (Option.some Jvm.ClassFile.FieldType.int)).before args0 about1 = true := code_word (m := ⟨13, 1⟩) (meth := k13m1) (c := k13c1) (by decide +kernel) rfl rfl rfl (by decide +kernel)
set_option maxRecDepth 65536 in
theorem w_c14 : (Jvm.Cond.code ({ cls := "com/example/lumenbus/lumenbus/log/Segment", name := "bytesOf", desc := "([B)J" } : Jvm.MethodName) prog_45_method_11_code (1 : Nat) (Option.some Jvm.ClassFile.FieldType.long)).before args0 about1 = true := code_word (m := ⟨16, 0⟩) (meth := k16m0) (c := k16c0) (by decide +kernel) rfl rfl rfl (by decide +kernel)
set_option maxRecDepth 65536 in
theorem w_c15 : (Jvm.Cond.code ({ cls := "com/example/lumenbus/lumenbus/log/Batch", name := "timestamp", desc := "(IJ)J" } : Jvm.MethodName) prog_31_method_13_code (6 : Nat) (Option.some Jvm.ClassFile.FieldType.long)).before args0 about1 = true := code_word (m := ⟨2, 5⟩) (meth := k2m5) (c := k2c5) (by decide +kernel) rfl rfl rfl (by decide +kernel)
set_option maxRecDepth 65536 in
theorem w_c16 : (Jvm.Cond.code ({ cls := "com/example/lumenbus/lumenbus/log/Batch", name := "add", desc := "(J[B)V" } : Jvm.MethodName) prog_31_method_3_code (4 : Nat) (Option.none : Option Jvm.ClassFile.FieldType)).before args0 about1 = true := code_word (m := ⟨2, 2⟩) (meth := k2m2) (c := k2c2) (by decide +kernel) rfl rfl rfl (by decide +kernel)
set_option maxRecDepth 65536 in
theorem w_c17 : (Jvm.Cond.code ({ cls := "com/example/lumenbus/lumenbus/log/Batch", name := "checkTimestamp", desc := "(J)V" } : Jvm.MethodName) prog_31_method_4_code (2 : Nat) (Option.none : Option Jvm.ClassFile.FieldType)).before args0 about1 = true := code_word (m := ⟨2, 3⟩) (meth := k2m3) (c := k2c3) (by decide +kernel) rfl rfl rfl (by decide +kernel)
def codes1 : List Jvm.Cond := [Jvm.Cond.code x code maxLocals ret, Jvm.Cond.code ({ cls := "com/example/lumenbus/lumenbus/log/Batch", name := "<init>", desc := "()V" } : Jvm.MethodName) prog_31_method_1_code (1 : Nat) (Option.none : Option Jvm.ClassFile.FieldType), Jvm.Cond.code ({ cls := "java/lang/Object", name := "<init>", desc := "()V" } : Jvm.MethodName) object_method_1_code (1 : Nat) (Option.none : Option Jvm.ClassFile.FieldType), Jvm.Cond.code ({ cls := "java/util/ArrayList", name := "<init>", desc := "()V" } : Jvm.MethodName) jdk_38_method_2_code (1 : Nat) (Option.none : Option Jvm.ClassFile.FieldType), Jvm.Cond.code ({ cls := "java/util/AbstractList", name := "<init>", desc := "()V" } : Jvm.MethodName) jdk_39_method_1_code (1 : Nat) (Option.none : Option Jvm.ClassFile.FieldType), Jvm.Cond.code ({ cls := "java/util/AbstractCollection", name := "<init>", desc := "()V" } : Jvm.MethodName) jdk_22_method_1_code (1 : Nat) (Option.none : Option Jvm.ClassFile.FieldType), Jvm.Cond.code ({ cls := "com/example/lumenbus/lumenbus/log/Batch", name := "add", desc := "([B)V" } : Jvm.MethodName) prog_31_method_2_code (2 : Nat) (Option.none : Option Jvm.ClassFile.FieldType), Jvm.Cond.code ({ cls := "com/example/lumenbus/lumenbus/log/Batch", name := "put", desc := "(J[B)V" } : Jvm.MethodName) prog_31_method_5_code (4 : Nat) (Option.none : Option Jvm.ClassFile.FieldType), Jvm.Cond.code ({ cls := "java/util/ArrayList", name := "size", desc := "()I" } : Jvm.MethodName) jdk_38_method_8_code (1 : Nat) (Option.some Jvm.ClassFile.FieldType.int), Jvm.Cond.code ({ cls := "java/util/ArrayList", name := "add", desc := "(Ljava/lang/Object;)Z" } : Jvm.MethodName) jdk_38_method_25_code (2 : Nat) (Option.some Jvm.ClassFile.FieldType.boolean), Jvm.Cond.code ({ cls := "java/util/ArrayList", name := "add", desc := "(Ljava/lang/Object;[Ljava/lang/Object;I)V" } : Jvm.MethodName) jdk_38_method_24_code (4 : Nat) (Option.none : Option Jvm.ClassFile.FieldType), Jvm.Cond.code ({ cls := "java/util/ArrayList", name := "grow", desc := "()[Ljava/lang/Object;" } : Jvm.MethodName) jdk_38_method_7_code (1 : Nat) (Option.some (Jvm.ClassFile.FieldType.array (Jvm.ClassFile.FieldType.object "java/lang/Object"))), Jvm.Cond.code ({ cls := "java/util/ArrayList", name := "grow", desc := "(I)[Ljava/lang/Object;" } : Jvm.MethodName) jdk_38_method_6_code (4 : Nat) (Option.some (Jvm.ClassFile.FieldType.array (Jvm.ClassFile.FieldType.object "java/lang/Object"))), Jvm.Cond.code ({ cls := "java/lang/Math", name := "max", desc := "(II)I" } : Jvm.MethodName) jdk_29_method_65_code (2 : Nat) (Option.some Jvm.ClassFile.FieldType.int), Jvm.Cond.code ({ cls := "com/example/lumenbus/lumenbus/log/Segment", name := "bytesOf", desc := "([B)J" } : Jvm.MethodName) prog_45_method_11_code (1 : Nat) (Option.some Jvm.ClassFile.FieldType.long), Jvm.Cond.code ({ cls := "com/example/lumenbus/lumenbus/log/Batch", name := "timestamp", desc := "(IJ)J" } : Jvm.MethodName) prog_31_method_13_code (6 : Nat) (Option.some Jvm.ClassFile.FieldType.long), Jvm.Cond.code ({ cls := "com/example/lumenbus/lumenbus/log/Batch", name := "add", desc := "(J[B)V" } : Jvm.MethodName) prog_31_method_3_code (4 : Nat) (Option.none : Option Jvm.ClassFile.FieldType), Jvm.Cond.code ({ cls := "com/example/lumenbus/lumenbus/log/Batch", name := "checkTimestamp", desc := "(J)V" } : Jvm.MethodName) prog_31_method_4_code (2 : Nat) (Option.none : Option Jvm.ClassFile.FieldType)]
set_option maxRecDepth 65536 in
theorem codes_eq : words1.filter isCode = codes1 := rfl
theorem w_codes : ∀ c ∈ words1.filter isCode, c.before args0 about1 = true := by
  rw [codes_eq]
  intro c hc
  simp only [codes1, List.mem_cons, List.not_mem_nil, or_false] at hc
  rcases hc with rfl | rfl | rfl | rfl | rfl | rfl | rfl | rfl | rfl | rfl | rfl | rfl | rfl | rfl | rfl | rfl | rfl | rfl
  · exact w_c0
  · exact w_c1
  · exact w_c2
  · exact w_c3
  · exact w_c4
  · exact w_c5
  · exact w_c6
  · exact w_c7
  · exact w_c8
  · exact w_c9
  · exact w_c10
  · exact w_c11
  · exact w_c12
  · exact w_c13
  · exact w_c14
  · exact w_c15
  · exact w_c16
  · exact w_c17
set_option maxRecDepth 65536 in
theorem w_t1 : (words1.take 24).all (fun c => isCode c || c.before args0 about1) = true := by decide +kernel
set_option maxRecDepth 65536 in
theorem w_t2 : ((words1.drop 24).take 24).all (fun c => isCode c || c.before args0 about1) = true := by decide +kernel
set_option maxRecDepth 65536 in
theorem w_t3 : (((words1.drop 24).drop 24).take 24).all (fun c => isCode c || c.before args0 about1) = true := by decide +kernel
set_option maxRecDepth 65536 in
theorem w_t4 : ((((words1.drop 24).drop 24).drop 24).take 24).all (fun c => isCode c || c.before args0 about1) = true := by decide +kernel
set_option maxRecDepth 65536 in
theorem w_t5 : ((((words1.drop 24).drop 24).drop 24).drop 24).all (fun c => isCode c || c.before args0 about1) = true := by decide +kernel
theorem w_tables : (allAtoms (Jvm.Cond.code x code maxLocals ret :: tables_1)).before args0 about1 = true := by
  rw [allAtoms_all]
  show words1.all (fun c => c.before args0 about1) = true
  refine all_split ?_ w_codes
  rw [← List.take_append_drop 24 words1, List.all_append, w_t1, ← List.take_append_drop 24 (words1.drop 24), List.all_append, w_t2, ← List.take_append_drop 24 ((words1.drop 24).drop 24), List.all_append, w_t3, ← List.take_append_drop 24 (((words1.drop 24).drop 24).drop 24), List.all_append, w_t4, w_t5]
  rfl
set_option maxRecDepth 65536 in
theorem w_rest : rest_1_c.before args0 about1 = true := by decide +kernel
set_option maxRecDepth 65536 in
theorem w_case : (Jvm.Cond.and given_1 narrow_1).before args0 about1 = true := by decide +kernel
theorem w_applies : (headSpec (Jvm.Cond.code x code maxLocals ret :: tables_1) room_1).applies x e0.platform about1 = true :=
  (Spec.applies_iff w_frames).mpr ⟨w_running, w_runnable, w_alone, w_named, w_hears, w_ripe, w_room, w_tables⟩
theorem atStart : AtStart classFile x code maxLocals ret World_1 tables_1 room_1 Calls_1 rest_1 Pre_1 launch0 p0 e0 about1 theMethod args0 below0 :=
  ⟨lists_1, trivial, launch0.admits_env _ _ _, launch0.least_env, fairChoices_fair.cas, fairChoices_fair.clock, w_frames, w_args, w_heap, w_applies, trivial, w_rest, w_case⟩
end start1
theorem witness_1 : WitnessClaimed_1 := ⟨start1.p0, start1.e0, start1.about1, start1.theMethod, start1.args0, start1.below0, start1.atStart⟩
end Jvm.Pilot.@@N@@
